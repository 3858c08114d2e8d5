/- The texts of a claim, put together: the engine, the contracts, the law. Own work. -/
import Derived.Test.YtcbpjflgkefidaaGreatDoorWd3P4
namespace Go.Proofs.YtcbpjflgkefidaaGreatDoor.ME
open Go
open Go.RowKit
set_option linter.unusedVariables false
set_option linter.unusedSimpArgs false
set_option maxRecDepth 20000
def qaY (D:DV):Tree:=.mk 0 [] false [.mk (IntKind.i64.wrap (D.f 0).n) [] false [] [],.mk (IntKind.i64.wrap (D.f 1).n) [] false [] [],.mk (IntKind.i64.wrap (D.f 2).n) [] false [] [],.mk 0 (D.f 3).o false [] [],.mk 0 (D.f 4).o false [] [],.mk (IntKind.i64.wrap (D.f 5).n) [] false [] [],.mk ((D.f 6).n) [] false [] [],qku (D.f 7).b] D.u
def qbe (D:DV):Tree:=.mk 0 [] false [.mk 0 (sb (D.f 0).s) false [] [],.mk 0 [] (D.f 1).A.isNone ((List.range (D.f 1).l).map fun i=>qaY ((D.f 1).f i)) []] D.u
def qb0 (D:DV):Tree:=.mk 0 [] false [qkt (D.f 0).A (D.f 0).s,.mk (IntKind.i64.wrap (D.f 1).n) [] false [] [],.mk 0 [] (D.f 2).A.isNone ((List.range (D.f 2).l).map fun i=>qbe ((D.f 2).f i)) []] D.u
set_option maxHeartbeats 4000000 in
theorem qbs (v:Int) (D:DV) (b o:Nat) (w:World) (F:Nat → Nat → Prop) (hat:AtF w F b o (.int .i32 ((D.f 0).n) :: .int .i32 ((D.f 1).n) :: .int .i32 ((D.f 2).n) :: qaa ((D.f 3).o.getD 0 0) :: qaa ((D.f 3).o.getD 1 0) :: qaa ((D.f 3).o.getD 2 0) :: qaa ((D.f 3).o.getD 3 0) :: qaa ((D.f 3).o.getD 4 0) :: qaa ((D.f 3).o.getD 5 0) :: qaa ((D.f 3).o.getD 6 0) :: qaa ((D.f 3).o.getD 7 0) :: qaa ((D.f 3).o.getD 8 0) :: qaa ((D.f 3).o.getD 9 0) :: qaa ((D.f 3).o.getD 10 0) :: qaa ((D.f 3).o.getD 11 0) :: qaa ((D.f 3).o.getD 12 0) :: qaa ((D.f 3).o.getD 13 0) :: qaa ((D.f 3).o.getD 14 0) :: qaa ((D.f 3).o.getD 15 0) :: qaa ((D.f 4).o.getD 0 0) :: qaa ((D.f 4).o.getD 1 0) :: qaa ((D.f 4).o.getD 2 0) :: qaa ((D.f 4).o.getD 3 0) :: qaa ((D.f 4).o.getD 4 0) :: qaa ((D.f 4).o.getD 5 0) :: qaa ((D.f 4).o.getD 6 0) :: qaa ((D.f 4).o.getD 7 0) :: qaa ((D.f 4).o.getD 8 0) :: qaa ((D.f 4).o.getD 9 0) :: qaa ((D.f 4).o.getD 10 0) :: qaa ((D.f 4).o.getD 11 0) :: qaa ((D.f 4).o.getD 12 0) :: qaa ((D.f 4).o.getD 13 0) :: qaa ((D.f 4).o.getD 14 0) :: qaa ((D.f 4).o.getD 15 0) :: .int .i32 ((D.f 5).n) :: .int .i64 ((D.f 6).n) :: .bool ((D.f 7).b) :: .map D.m :: [])) (hok:qaT w F D):Calls Tryz.prog 170 #[.pointer (some ⟨b,o,none⟩)] w (qcN w F (qaY D)):=by
 refine enter (n:=85) Tryz.func170 rfl Tryz.ntmps170 kz fun a hE=>?_
 have hW:WOk w Nil w [⟨b,o,(.int .i32 ((D.f 0).n) :: .int .i32 ((D.f 1).n) :: .int .i32 ((D.f 2).n) :: qaa ((D.f 3).o.getD 0 0) :: qaa ((D.f 3).o.getD 1 0) :: qaa ((D.f 3).o.getD 2 0) :: qaa ((D.f 3).o.getD 3 0) :: qaa ((D.f 3).o.getD 4 0) :: qaa ((D.f 3).o.getD 5 0) :: qaa ((D.f 3).o.getD 6 0) :: qaa ((D.f 3).o.getD 7 0) :: qaa ((D.f 3).o.getD 8 0) :: qaa ((D.f 3).o.getD 9 0) :: qaa ((D.f 3).o.getD 10 0) :: qaa ((D.f 3).o.getD 11 0) :: qaa ((D.f 3).o.getD 12 0) :: qaa ((D.f 3).o.getD 13 0) :: qaa ((D.f 3).o.getD 14 0) :: qaa ((D.f 3).o.getD 15 0) :: qaa ((D.f 4).o.getD 0 0) :: qaa ((D.f 4).o.getD 1 0) :: qaa ((D.f 4).o.getD 2 0) :: qaa ((D.f 4).o.getD 3 0) :: qaa ((D.f 4).o.getD 4 0) :: qaa ((D.f 4).o.getD 5 0) :: qaa ((D.f 4).o.getD 6 0) :: qaa ((D.f 4).o.getD 7 0) :: qaa ((D.f 4).o.getD 8 0) :: qaa ((D.f 4).o.getD 9 0) :: qaa ((D.f 4).o.getD 10 0) :: qaa ((D.f 4).o.getD 11 0) :: qaa ((D.f 4).o.getD 12 0) :: qaa ((D.f 4).o.getD 13 0) :: qaa ((D.f 4).o.getD 14 0) :: qaa ((D.f 4).o.getD 15 0) :: .int .i32 ((D.f 5).n) :: .int .i64 ((D.f 6).n) :: .bool ((D.f 7).b) :: .map D.m :: []),false⟩] []:=(WOk.start w Nil).start1 hat rfl rfl
 unfold qaT at hok
 obtain ⟨g1,g2,g3,g4,g5,g6,g7,g8,g9,g9l,g9x,_⟩:=hok
 have hE0:=(EnvOk.ptr0 (cs:=(.int .i32 ((D.f 0).n) :: .int .i32 ((D.f 1).n) :: .int .i32 ((D.f 2).n) :: qaa ((D.f 3).o.getD 0 0) :: qaa ((D.f 3).o.getD 1 0) :: qaa ((D.f 3).o.getD 2 0) :: qaa ((D.f 3).o.getD 3 0) :: qaa ((D.f 3).o.getD 4 0) :: qaa ((D.f 3).o.getD 5 0) :: qaa ((D.f 3).o.getD 6 0) :: qaa ((D.f 3).o.getD 7 0) :: qaa ((D.f 3).o.getD 8 0) :: qaa ((D.f 3).o.getD 9 0) :: qaa ((D.f 3).o.getD 10 0) :: qaa ((D.f 3).o.getD 11 0) :: qaa ((D.f 3).o.getD 12 0) :: qaa ((D.f 3).o.getD 13 0) :: qaa ((D.f 3).o.getD 14 0) :: qaa ((D.f 3).o.getD 15 0) :: qaa ((D.f 4).o.getD 0 0) :: qaa ((D.f 4).o.getD 1 0) :: qaa ((D.f 4).o.getD 2 0) :: qaa ((D.f 4).o.getD 3 0) :: qaa ((D.f 4).o.getD 4 0) :: qaa ((D.f 4).o.getD 5 0) :: qaa ((D.f 4).o.getD 6 0) :: qaa ((D.f 4).o.getD 7 0) :: qaa ((D.f 4).o.getD 8 0) :: qaa ((D.f 4).o.getD 9 0) :: qaa ((D.f 4).o.getD 10 0) :: qaa ((D.f 4).o.getD 11 0) :: qaa ((D.f 4).o.getD 12 0) :: qaa ((D.f 4).o.getD 13 0) :: qaa ((D.f 4).o.getD 14 0) :: qaa ((D.f 4).o.getD 15 0) :: .int .i32 ((D.f 5).n) :: .int .i64 ((D.f 6).n) :: .bool ((D.f 7).b) :: .map D.m :: [])) (r:=false) hE).pk (env':=[(0,.p 0 0)])
 have ba:=qjZ (k:=3) (s:=(D.f 3).o) hat g4 (fun j hj=>by match j,hj with | 0,_=>rfl | 1,_=>rfl | 2,_=>rfl | 3,_=>rfl | 4,_=>rfl | 5,_=>rfl | 6,_=>rfl | 7,_=>rfl | 8,_=>rfl | 9,_=>rfl | 10,_=>rfl | 11,_=>rfl | 12,_=>rfl | 13,_=>rfl | 14,_=>rfl | 15,_=>rfl | n_ + 16,h_=>exact absurd h_ (by omega))
 have bd:=qjZ (k:=19) (s:=(D.f 4).o) hat g5 (fun j hj=>by match j,hj with | 0,_=>rfl | 1,_=>rfl | 2,_=>rfl | 3,_=>rfl | 4,_=>rfl | 5,_=>rfl | 6,_=>rfl | 7,_=>rfl | 8,_=>rfl | 9,_=>rfl | 10,_=>rfl | 11,_=>rfl | 12,_=>rfl | 13,_=>rfl | 14,_=>rfl | 15,_=>rfl | n_ + 16,h_=>exact absurd h_ (by omega))
 refine qae [0] kz ?_
 refine qaj (qaJ hW hE0 (d:=2) (cs:=[.int .i64 0,.slice none 0 0,.bool false,.slice none 0 0,.slice none 0 0]) kz fun aE eW eX dU dV dW cO cP=>?_)
 refine qag (qac ?_)
 refine qae [0,1,2,3] kz ?_
 refine qaj (qeg (t:=34) (e:=37) (size:=5) (bytes:=88) (d:=4) (j:=8) (.agg #[.int .i64 0,.slice none 0 0,.bool false,.slice none 0 0,.slice none 0 0]) (.int .i64 0 :: .slice none 0 0 :: .bool false :: .slice none 0 0 :: .slice none 0 0 :: .int .i64 0 :: .slice none 0 0 :: .bool false :: .slice none 0 0 :: .slice none 0 0 :: .int .i64 0 :: .slice none 0 0 :: .bool false :: .slice none 0 0 :: .slice none 0 0 :: .int .i64 0 :: .slice none 0 0 :: .bool false :: .slice none 0 0 :: .slice none 0 0 :: .int .i64 0 :: .slice none 0 0 :: .bool false :: .slice none 0 0 :: .slice none 0 0 :: .int .i64 0 :: .slice none 0 0 :: .bool false :: .slice none 0 0 :: .slice none 0 0 :: .int .i64 0 :: .slice none 0 0 :: .bool false :: .slice none 0 0 :: .slice none 0 0 :: .int .i64 0 :: .slice none 0 0 :: .bool false :: .slice none 0 0 :: .slice none 0 0 :: []) cO cP fun aa eY eZ dX dY dZ bf cQ=>?_)
 refine qak [1] [2,3] [(0,.p 0 0),(2,.p 1 0),(5,.v (.agg #[.int .i64 0,.slice none 0 0,.bool false,.slice (some ⟨aa,0,none⟩) 8 8,.slice none 0 0]))] bf cQ fun e9 cR=>?_
 refine qaj (qaJ bf cR (d:=3) (cs:=[.int .i64 0,.slice none 0 0,.bool false,.slice none 0 0,.slice none 0 0]) kz fun aA fa fb d5 d6 d7 cS cT=>?_)
 refine qaj (qan cS cT (oi:=3) (cs:=[.int .i64 0,.slice none 0 0,.bool false,.slice (some ⟨aa,0,none⟩) 8 8,.slice none 0 0]) kz fun fe d8 cU cV=>?_)
 refine qag (qac ?_)
 refine qaM 9 kz cU fun ff d9 cW bg=>?_
 refine qaD [0,1,2,3,4,5,6,7] [(0,.p 0 0),(2,.p 1 0),(3,.p 3 0),(7,.v (.slice (some ⟨aa,0,none⟩) 8 8)),(13,.v (.agg #[.int .i64 (IntKind.i64.wrap ((D.f 0).n)),.slice none 0 0,.bool false,.slice none 0 0,.slice none 0 0]))] 2 (qab qaf) (fun _ h=>h.cells) bg cV fun fg cX=>?_
 refine qaE cX (i:=8) (t:=34) (A:=(some ⟨aa,0,none⟩)) (m:=8) (q:=0) (d:=14) kz (e:=37) (size:=5) (bytes:=88) (j:=0) kz (b:=aa) (o:=0) rfl rfl (by decide) kz kz (qab qaf) bg fun fh cY=>?_
 have cZ:=cY.recast 14 (.v (.pointer (some ⟨aa,0 + 0 * 5,none⟩))) (.p 2 0) rfl rfl (Nat.le_of_ble_eq_true (n:=3) rfl)
 have c5:=cZ.pk (env':=[(0,.p 0 0),(2,.p 1 0),(3,.p 3 0),(7,.v (.slice (some ⟨aa,0,none⟩) 8 8)),(13,.v (.agg #[.int .i64 (IntKind.i64.wrap ((D.f 0).n)),.slice none 0 0,.bool false,.slice none 0 0,.slice none 0 0])),(14,.p 2 0)])
 refine qat (i:=9) kz (qan cW c5 (oi:=2) (cs:=(.int .i64 (IntKind.i64.wrap ((D.f 0).n)) :: .slice none 0 0 :: .bool false :: .slice none 0 0 :: .slice none 0 0 :: .int .i64 0 :: .slice none 0 0 :: .bool false :: .slice none 0 0 :: .slice none 0 0 :: .int .i64 0 :: .slice none 0 0 :: .bool false :: .slice none 0 0 :: .slice none 0 0 :: .int .i64 0 :: .slice none 0 0 :: .bool false :: .slice none 0 0 :: .slice none 0 0 :: .int .i64 0 :: .slice none 0 0 :: .bool false :: .slice none 0 0 :: .slice none 0 0 :: .int .i64 0 :: .slice none 0 0 :: .bool false :: .slice none 0 0 :: .slice none 0 0 :: .int .i64 0 :: .slice none 0 0 :: .bool false :: .slice none 0 0 :: .slice none 0 0 :: .int .i64 0 :: .slice none 0 0 :: .bool false :: .slice none 0 0 :: .slice none 0 0 :: [])) kz fun fi ea c6 da=>?_)
 refine ⟨fun h=>absurd rfl h,?_⟩
 refine qaB kz ?_ _
 refine qac ?_
 refine qaM 9 kz c6 fun fj eb db bh=>?_
 refine qaD [0,1,2,3,4,5,6,7] [(0,.p 0 0),(2,.p 1 0),(3,.p 3 0),(16,.v (.slice (some ⟨aa,0,none⟩) 8 8)),(22,.v (.agg #[.int .i64 (IntKind.i64.wrap ((D.f 1).n)),.slice none 0 0,.bool false,.slice none 0 0,.slice none 0 0]))] 2 (qab qaf) (fun _ h=>h.cells) bh da fun fk dc=>?_
 refine qaE dc (i:=8) (t:=34) (A:=(some ⟨aa,0,none⟩)) (m:=8) (q:=1) (d:=23) kz (e:=37) (size:=5) (bytes:=88) (j:=1) kz (b:=aa) (o:=0) rfl rfl (by decide) kz kz (qab qaf) bh fun fl de=>?_
 have dg:=de.recast 23 (.v (.pointer (some ⟨aa,0 + 1 * 5,none⟩))) (.p 2 5) rfl rfl (Nat.le_of_ble_eq_true (n:=3) rfl)
 have dh:=dg.pk (env':=[(0,.p 0 0),(2,.p 1 0),(3,.p 3 0),(16,.v (.slice (some ⟨aa,0,none⟩) 8 8)),(22,.v (.agg #[.int .i64 (IntKind.i64.wrap ((D.f 1).n)),.slice none 0 0,.bool false,.slice none 0 0,.slice none 0 0])),(23,.p 2 5)])
 refine qat (i:=9) kz (qan db dh (oi:=2) (cs:=(.int .i64 (IntKind.i64.wrap ((D.f 0).n)) :: .slice none 0 0 :: .bool false :: .slice none 0 0 :: .slice none 0 0 :: .int .i64 (IntKind.i64.wrap ((D.f 1).n)) :: .slice none 0 0 :: .bool false :: .slice none 0 0 :: .slice none 0 0 :: .int .i64 0 :: .slice none 0 0 :: .bool false :: .slice none 0 0 :: .slice none 0 0 :: .int .i64 0 :: .slice none 0 0 :: .bool false :: .slice none 0 0 :: .slice none 0 0 :: .int .i64 0 :: .slice none 0 0 :: .bool false :: .slice none 0 0 :: .slice none 0 0 :: .int .i64 0 :: .slice none 0 0 :: .bool false :: .slice none 0 0 :: .slice none 0 0 :: .int .i64 0 :: .slice none 0 0 :: .bool false :: .slice none 0 0 :: .slice none 0 0 :: .int .i64 0 :: .slice none 0 0 :: .bool false :: .slice none 0 0 :: .slice none 0 0 :: [])) kz fun fm ec di dj=>?_)
 refine ⟨fun h=>absurd rfl h,?_⟩
 refine qaB kz ?_ _
 refine qac ?_
 refine qaM 9 kz di fun fo ee dl bi=>?_
 refine qaD [0,1,2,3,4,5,6,7] [(0,.p 0 0),(2,.p 1 0),(3,.p 3 0),(25,.v (.slice (some ⟨aa,0,none⟩) 8 8)),(31,.v (.agg #[.int .i64 (IntKind.i64.wrap ((D.f 2).n)),.slice none 0 0,.bool false,.slice none 0 0,.slice none 0 0]))] 2 (qab qaf) (fun _ h=>h.cells) bi dj fun fq dp=>?_
 refine qaE dp (i:=8) (t:=34) (A:=(some ⟨aa,0,none⟩)) (m:=8) (q:=2) (d:=32) kz (e:=37) (size:=5) (bytes:=88) (j:=2) kz (b:=aa) (o:=0) rfl rfl (by decide) kz kz (qab qaf) bi fun fr dq=>?_
 have dr:=dq.recast 32 (.v (.pointer (some ⟨aa,0 + 2 * 5,none⟩))) (.p 2 10) rfl rfl (Nat.le_of_ble_eq_true (n:=3) rfl)
 have dt:=dr.pk (env':=[(0,.p 0 0),(2,.p 1 0),(3,.p 3 0),(25,.v (.slice (some ⟨aa,0,none⟩) 8 8)),(31,.v (.agg #[.int .i64 (IntKind.i64.wrap ((D.f 2).n)),.slice none 0 0,.bool false,.slice none 0 0,.slice none 0 0])),(32,.p 2 10)])
 refine qat (i:=9) kz (qan dl dt (oi:=2) (cs:=(.int .i64 (IntKind.i64.wrap ((D.f 0).n)) :: .slice none 0 0 :: .bool false :: .slice none 0 0 :: .slice none 0 0 :: .int .i64 (IntKind.i64.wrap ((D.f 1).n)) :: .slice none 0 0 :: .bool false :: .slice none 0 0 :: .slice none 0 0 :: .int .i64 (IntKind.i64.wrap ((D.f 2).n)) :: .slice none 0 0 :: .bool false :: .slice none 0 0 :: .slice none 0 0 :: .int .i64 0 :: .slice none 0 0 :: .bool false :: .slice none 0 0 :: .slice none 0 0 :: .int .i64 0 :: .slice none 0 0 :: .bool false :: .slice none 0 0 :: .slice none 0 0 :: .int .i64 0 :: .slice none 0 0 :: .bool false :: .slice none 0 0 :: .slice none 0 0 :: .int .i64 0 :: .slice none 0 0 :: .bool false :: .slice none 0 0 :: .slice none 0 0 :: .int .i64 0 :: .slice none 0 0 :: .bool false :: .slice none 0 0 :: .slice none 0 0 :: [])) kz fun ft ef du dv=>?_)
 refine ⟨fun h=>absurd rfl h,?_⟩
 refine qaB kz ?_ _
 refine qac ?_
 refine qaM 9 kz du fun fu eg bj dw=>?_
 refine qaD [0,1,2,3,4,5] [(0,.p 0 0),(2,.p 1 0),(3,.p 3 0),(34,.v (.slice (some ⟨aa,0,none⟩) 8 8)),(38,.v (.slice (some ⟨b,o + 3,none⟩) 16 16))] 4 (qab qaf) (fun _ h=>h.cells) dw dv fun fv dx=>?_
 have aF:=bj.addNil 5 1
 have dy:=bj.frNil 5 1
 refine qat (i:=6) kz (qaI aF dx (k:=0) (d:=39) (t:=22) (e:=5) (size:=1) (bytes:=1) (A:=none) (As:=(some ⟨b,o + 3,none⟩)) (m0:=0) (c:=0) (m:=16) (cs:=16) (xs:=[]) (news:=bc ((D.f 3).o)) kz kz rfl (ba.move aF.step nilM aF.imm).src (ba.move aF.step nilM aF.imm).cap (by omega) fun ag ah fw fx dz dA dB=>?_)
 have dC:(⟨ag,ah,5,1,0 + 16,[] ++ bc ((D.f 3).o)⟩:Rw) = brow ag ah 5 ((D.f 3).o):=by rw [List.nil_append]; unfold brow; rw [g4]
 obtain ⟨aN,bk⟩:=dA.rowEq 0 [brow ag ah 5 ((D.f 3).o)] dC
 have bn:=EnvOk.pick dB (ks:=[0,2,3,34,38,39]) (env':=[(0,.p 0 0),(2,.p 1 0),(3,.p 3 0),(34,.v (.slice (some ⟨aa,0,none⟩) 8 8)),(38,.v (.slice (some ⟨b,o + 3,none⟩) 16 16)),(39,.v (.slice ag (0 + 16) ah))]) kz
 have bo:=bn.cast (env':=[(0,.p 0 0),(2,.p 1 0),(3,.p 3 0),(34,.v (.slice (some ⟨aa,0,none⟩) 8 8)),(38,.v (.slice (some ⟨b,o + 3,none⟩) 16 16)),(39,.v (.slice ag (((D.f 3).o).length) ah))]) (by rw [g4])
 have aG:=TT.ofW ((dy.trans dz).trans bk) aN
 refine ⟨fun _=>aG,?_⟩
 refine qaD [7] [(0,.p 0 0),(2,.p 1 0),(3,.p 3 0),(34,.v (.slice (some ⟨aa,0,none⟩) 8 8)),(40,.v (.agg #[.int .i64 0,.slice ag (((D.f 3).o).length) ah,.bool false,.slice none 0 0,.slice none 0 0]))] 2 (qab qaf) (fun _ h=>h.cells) aG bo fun eh bp=>?_
 refine qaE bp (i:=8) (t:=34) (A:=(some ⟨aa,0,none⟩)) (m:=8) (q:=3) (d:=41) kz (e:=37) (size:=5) (bytes:=88) (j:=3) kz (b:=aa) (o:=0) rfl rfl (by decide) kz kz (qab qaf) aG fun ei bq=>?_
 have bt:=bq.recast 41 (.v (.pointer (some ⟨aa,0 + 3 * 5,none⟩))) (.p 2 15) rfl rfl (Nat.le_of_ble_eq_true (n:=3) rfl)
 have bu:=bt.pk (env':=[(0,.p 0 0),(2,.p 1 0),(3,.p 3 0),(34,.v (.slice (some ⟨aa,0,none⟩) 8 8)),(40,.v (.agg #[.int .i64 0,.slice ag (((D.f 3).o).length) ah,.bool false,.slice none 0 0,.slice none 0 0])),(41,.p 2 15)])
 refine qat (i:=9) kz (qan aN bu (oi:=2) (cs:=(.int .i64 (IntKind.i64.wrap ((D.f 0).n)) :: .slice none 0 0 :: .bool false :: .slice none 0 0 :: .slice none 0 0 :: .int .i64 (IntKind.i64.wrap ((D.f 1).n)) :: .slice none 0 0 :: .bool false :: .slice none 0 0 :: .slice none 0 0 :: .int .i64 (IntKind.i64.wrap ((D.f 2).n)) :: .slice none 0 0 :: .bool false :: .slice none 0 0 :: .slice none 0 0 :: .int .i64 0 :: .slice ag (((D.f 3).o).length) ah :: .bool false :: .slice none 0 0 :: .slice none 0 0 :: .int .i64 0 :: .slice none 0 0 :: .bool false :: .slice none 0 0 :: .slice none 0 0 :: .int .i64 0 :: .slice none 0 0 :: .bool false :: .slice none 0 0 :: .slice none 0 0 :: .int .i64 0 :: .slice none 0 0 :: .bool false :: .slice none 0 0 :: .slice none 0 0 :: .int .i64 0 :: .slice none 0 0 :: .bool false :: .slice none 0 0 :: .slice none 0 0 :: [])) kz fun ej dJ bw bx=>?_)
 refine ⟨fun h=>absurd rfl h,?_⟩
 refine qaB kz ?_ _
 refine qac ?_
 refine qaM 9 kz bw fun ek dK aO bz=>?_
 refine qaD [0,1,2,3,4,5] [(0,.p 0 0),(2,.p 1 0),(3,.p 3 0),(43,.v (.slice (some ⟨aa,0,none⟩) 8 8)),(47,.v (.slice (some ⟨b,o + 19,none⟩) 16 16))] 4 (qab qaf) (fun _ h=>h.cells) bz bx fun em bA=>?_
 have az:=aO.addNil 5 1
 have bB:=aO.frNil 5 1
 refine qat (i:=6) kz (qaI az bA (k:=1) (d:=48) (t:=22) (e:=5) (size:=1) (bytes:=1) (A:=none) (As:=(some ⟨b,o + 19,none⟩)) (m0:=0) (c:=0) (m:=16) (cs:=16) (xs:=[]) (news:=bc ((D.f 4).o)) kz kz rfl (bd.move az.step nilM az.imm).src (bd.move az.step nilM az.imm).cap (by omega) fun ab ac eo ep bC bD bE=>?_)
 have bF:(⟨ab,ac,5,1,0 + 16,[] ++ bc ((D.f 4).o)⟩:Rw) = brow ab ac 5 ((D.f 4).o):=by rw [List.nil_append]; unfold brow; rw [g5]
 obtain ⟨aP,bG⟩:=bD.rowEq 1 [brow ag ah 5 ((D.f 3).o),brow ab ac 5 ((D.f 4).o)] bF
 have bH:=EnvOk.pick bE (ks:=[0,2,3,43,47,48]) (env':=[(0,.p 0 0),(2,.p 1 0),(3,.p 3 0),(43,.v (.slice (some ⟨aa,0,none⟩) 8 8)),(47,.v (.slice (some ⟨b,o + 19,none⟩) 16 16)),(48,.v (.slice ab (0 + 16) ac))]) kz
 have bI:=bH.cast (env':=[(0,.p 0 0),(2,.p 1 0),(3,.p 3 0),(43,.v (.slice (some ⟨aa,0,none⟩) 8 8)),(47,.v (.slice (some ⟨b,o + 19,none⟩) 16 16)),(48,.v (.slice ab (((D.f 4).o).length) ac))]) (by rw [g5])
 have aH:=TT.ofW ((bB.trans bC).trans bG) aP
 refine ⟨fun _=>aH,?_⟩
 refine qaD [7] [(0,.p 0 0),(2,.p 1 0),(3,.p 3 0),(43,.v (.slice (some ⟨aa,0,none⟩) 8 8)),(49,.v (.agg #[.int .i64 0,.slice ab (((D.f 4).o).length) ac,.bool false,.slice none 0 0,.slice none 0 0]))] 2 (qab qaf) (fun _ h=>h.cells) aH bI fun eu bJ=>?_
 refine qaE bJ (i:=8) (t:=34) (A:=(some ⟨aa,0,none⟩)) (m:=8) (q:=4) (d:=50) kz (e:=37) (size:=5) (bytes:=88) (j:=4) kz (b:=aa) (o:=0) rfl rfl (by decide) kz kz (qab qaf) aH fun ev bK=>?_
 have bL:=bK.recast 50 (.v (.pointer (some ⟨aa,0 + 4 * 5,none⟩))) (.p 2 20) rfl rfl (Nat.le_of_ble_eq_true (n:=3) rfl)
 have bM:=bL.pk (env':=[(0,.p 0 0),(2,.p 1 0),(3,.p 3 0),(43,.v (.slice (some ⟨aa,0,none⟩) 8 8)),(49,.v (.agg #[.int .i64 0,.slice ab (((D.f 4).o).length) ac,.bool false,.slice none 0 0,.slice none 0 0])),(50,.p 2 20)])
 refine qat (i:=9) kz (qan aP bM (oi:=2) (cs:=(.int .i64 (IntKind.i64.wrap ((D.f 0).n)) :: .slice none 0 0 :: .bool false :: .slice none 0 0 :: .slice none 0 0 :: .int .i64 (IntKind.i64.wrap ((D.f 1).n)) :: .slice none 0 0 :: .bool false :: .slice none 0 0 :: .slice none 0 0 :: .int .i64 (IntKind.i64.wrap ((D.f 2).n)) :: .slice none 0 0 :: .bool false :: .slice none 0 0 :: .slice none 0 0 :: .int .i64 0 :: .slice ag (((D.f 3).o).length) ah :: .bool false :: .slice none 0 0 :: .slice none 0 0 :: .int .i64 0 :: .slice ab (((D.f 4).o).length) ac :: .bool false :: .slice none 0 0 :: .slice none 0 0 :: .int .i64 0 :: .slice none 0 0 :: .bool false :: .slice none 0 0 :: .slice none 0 0 :: .int .i64 0 :: .slice none 0 0 :: .bool false :: .slice none 0 0 :: .slice none 0 0 :: .int .i64 0 :: .slice none 0 0 :: .bool false :: .slice none 0 0 :: .slice none 0 0 :: [])) kz fun ew dL bN bO=>?_)
 refine ⟨fun h=>absurd rfl h,?_⟩
 refine qaB kz ?_ _
 refine qac ?_
 refine qaM 9 kz bN fun ey dM bP aQ=>?_
 refine qaD [0,1,2,3,4,5,6,7] [(0,.p 0 0),(2,.p 1 0),(3,.p 3 0),(52,.v (.slice (some ⟨aa,0,none⟩) 8 8)),(58,.v (.agg #[.int .i64 (IntKind.i64.wrap ((D.f 5).n)),.slice none 0 0,.bool false,.slice none 0 0,.slice none 0 0]))] 2 (qab qaf) (fun _ h=>h.cells) aQ bO fun ez bQ=>?_
 refine qaE bQ (i:=8) (t:=34) (A:=(some ⟨aa,0,none⟩)) (m:=8) (q:=5) (d:=59) kz (e:=37) (size:=5) (bytes:=88) (j:=5) kz (b:=aa) (o:=0) rfl rfl (by decide) kz kz (qab qaf) aQ fun eB bR=>?_
 have bS:=bR.recast 59 (.v (.pointer (some ⟨aa,0 + 5 * 5,none⟩))) (.p 2 25) rfl rfl (Nat.le_of_ble_eq_true (n:=3) rfl)
 have bT:=bS.pk (env':=[(0,.p 0 0),(2,.p 1 0),(3,.p 3 0),(52,.v (.slice (some ⟨aa,0,none⟩) 8 8)),(58,.v (.agg #[.int .i64 (IntKind.i64.wrap ((D.f 5).n)),.slice none 0 0,.bool false,.slice none 0 0,.slice none 0 0])),(59,.p 2 25)])
 refine qat (i:=9) kz (qan bP bT (oi:=2) (cs:=(.int .i64 (IntKind.i64.wrap ((D.f 0).n)) :: .slice none 0 0 :: .bool false :: .slice none 0 0 :: .slice none 0 0 :: .int .i64 (IntKind.i64.wrap ((D.f 1).n)) :: .slice none 0 0 :: .bool false :: .slice none 0 0 :: .slice none 0 0 :: .int .i64 (IntKind.i64.wrap ((D.f 2).n)) :: .slice none 0 0 :: .bool false :: .slice none 0 0 :: .slice none 0 0 :: .int .i64 0 :: .slice ag (((D.f 3).o).length) ah :: .bool false :: .slice none 0 0 :: .slice none 0 0 :: .int .i64 0 :: .slice ab (((D.f 4).o).length) ac :: .bool false :: .slice none 0 0 :: .slice none 0 0 :: .int .i64 (IntKind.i64.wrap ((D.f 5).n)) :: .slice none 0 0 :: .bool false :: .slice none 0 0 :: .slice none 0 0 :: .int .i64 0 :: .slice none 0 0 :: .bool false :: .slice none 0 0 :: .slice none 0 0 :: .int .i64 0 :: .slice none 0 0 :: .bool false :: .slice none 0 0 :: .slice none 0 0 :: [])) kz fun eC dN bU bV=>?_)
 refine ⟨fun h=>absurd rfl h,?_⟩
 refine qaB kz ?_ _
 refine qac ?_
 refine qaM 8 kz bU fun eD dO bW aR=>?_
 refine qaD [0,1,2,3,4,5,6] [(0,.p 0 0),(2,.p 1 0),(3,.p 3 0),(61,.v (.slice (some ⟨aa,0,none⟩) 8 8)),(66,.v (.agg #[.int .i64 ((D.f 6).n),.slice none 0 0,.bool false,.slice none 0 0,.slice none 0 0]))] 2 (qab qaf) (fun _ h=>h.cells) aR bV fun eE bX=>?_
 refine qaE bX (i:=7) (t:=34) (A:=(some ⟨aa,0,none⟩)) (m:=8) (q:=6) (d:=67) kz (e:=37) (size:=5) (bytes:=88) (j:=6) kz (b:=aa) (o:=0) rfl rfl (by decide) kz kz (qab qaf) aR fun eF bY=>?_
 have bZ:=bY.recast 67 (.v (.pointer (some ⟨aa,0 + 6 * 5,none⟩))) (.p 2 30) rfl rfl (Nat.le_of_ble_eq_true (n:=3) rfl)
 have b8:=bZ.pk (env':=[(0,.p 0 0),(2,.p 1 0),(3,.p 3 0),(61,.v (.slice (some ⟨aa,0,none⟩) 8 8)),(66,.v (.agg #[.int .i64 ((D.f 6).n),.slice none 0 0,.bool false,.slice none 0 0,.slice none 0 0])),(67,.p 2 30)])
 refine qat (i:=8) kz (qan bW b8 (oi:=2) (cs:=(.int .i64 (IntKind.i64.wrap ((D.f 0).n)) :: .slice none 0 0 :: .bool false :: .slice none 0 0 :: .slice none 0 0 :: .int .i64 (IntKind.i64.wrap ((D.f 1).n)) :: .slice none 0 0 :: .bool false :: .slice none 0 0 :: .slice none 0 0 :: .int .i64 (IntKind.i64.wrap ((D.f 2).n)) :: .slice none 0 0 :: .bool false :: .slice none 0 0 :: .slice none 0 0 :: .int .i64 0 :: .slice ag (((D.f 3).o).length) ah :: .bool false :: .slice none 0 0 :: .slice none 0 0 :: .int .i64 0 :: .slice ab (((D.f 4).o).length) ac :: .bool false :: .slice none 0 0 :: .slice none 0 0 :: .int .i64 (IntKind.i64.wrap ((D.f 5).n)) :: .slice none 0 0 :: .bool false :: .slice none 0 0 :: .slice none 0 0 :: .int .i64 ((D.f 6).n) :: .slice none 0 0 :: .bool false :: .slice none 0 0 :: .slice none 0 0 :: .int .i64 0 :: .slice none 0 0 :: .bool false :: .slice none 0 0 :: .slice none 0 0 :: [])) kz fun eG dP cd ce=>?_)
 refine ⟨fun h=>absurd rfl h,?_⟩
 refine qaB kz ?_ _
 refine qac ?_
 refine qaM 8 kz cd fun dD dQ aI cg=>?_
 refine qaD [0,1,2,3,4,5] [(0,.p 0 0),(2,.p 1 0),(3,.p 3 0),(69,.v (.slice (some ⟨aa,0,none⟩) 8 8)),(73,.v (.bool ((D.f 7).b)))] 3 (qab qaf) (fun _ h=>h.cells) cg ce fun eH cm=>?_
 refine qat (i:=6) kz (qal cm (f:=100) (vs:=[.bool ((D.f 7).b)]) (d:=74) kz Tryz.call100 (qlp _ _ (Imm F w dD [⟨b,o,(.int .i32 ((D.f 0).n) :: .int .i32 ((D.f 1).n) :: .int .i32 ((D.f 2).n) :: qaa ((D.f 3).o.getD 0 0) :: qaa ((D.f 3).o.getD 1 0) :: qaa ((D.f 3).o.getD 2 0) :: qaa ((D.f 3).o.getD 3 0) :: qaa ((D.f 3).o.getD 4 0) :: qaa ((D.f 3).o.getD 5 0) :: qaa ((D.f 3).o.getD 6 0) :: qaa ((D.f 3).o.getD 7 0) :: qaa ((D.f 3).o.getD 8 0) :: qaa ((D.f 3).o.getD 9 0) :: qaa ((D.f 3).o.getD 10 0) :: qaa ((D.f 3).o.getD 11 0) :: qaa ((D.f 3).o.getD 12 0) :: qaa ((D.f 3).o.getD 13 0) :: qaa ((D.f 3).o.getD 14 0) :: qaa ((D.f 3).o.getD 15 0) :: qaa ((D.f 4).o.getD 0 0) :: qaa ((D.f 4).o.getD 1 0) :: qaa ((D.f 4).o.getD 2 0) :: qaa ((D.f 4).o.getD 3 0) :: qaa ((D.f 4).o.getD 4 0) :: qaa ((D.f 4).o.getD 5 0) :: qaa ((D.f 4).o.getD 6 0) :: qaa ((D.f 4).o.getD 7 0) :: qaa ((D.f 4).o.getD 8 0) :: qaa ((D.f 4).o.getD 9 0) :: qaa ((D.f 4).o.getD 10 0) :: qaa ((D.f 4).o.getD 11 0) :: qaa ((D.f 4).o.getD 12 0) :: qaa ((D.f 4).o.getD 13 0) :: qaa ((D.f 4).o.getD 14 0) :: qaa ((D.f 4).o.getD 15 0) :: .int .i32 ((D.f 5).n) :: .int .i64 ((D.f 6).n) :: .bool ((D.f 7).b) :: .map D.m :: []),false⟩,⟨aE,0,[.int .i64 0,.slice none 0 0,.bool false,.slice none 0 0,.slice none 0 0],true⟩,⟨aa,0,(.int .i64 (IntKind.i64.wrap ((D.f 0).n)) :: .slice none 0 0 :: .bool false :: .slice none 0 0 :: .slice none 0 0 :: .int .i64 (IntKind.i64.wrap ((D.f 1).n)) :: .slice none 0 0 :: .bool false :: .slice none 0 0 :: .slice none 0 0 :: .int .i64 (IntKind.i64.wrap ((D.f 2).n)) :: .slice none 0 0 :: .bool false :: .slice none 0 0 :: .slice none 0 0 :: .int .i64 0 :: .slice ag (((D.f 3).o).length) ah :: .bool false :: .slice none 0 0 :: .slice none 0 0 :: .int .i64 0 :: .slice ab (((D.f 4).o).length) ac :: .bool false :: .slice none 0 0 :: .slice none 0 0 :: .int .i64 (IntKind.i64.wrap ((D.f 5).n)) :: .slice none 0 0 :: .bool false :: .slice none 0 0 :: .slice none 0 0 :: .int .i64 ((D.f 6).n) :: .slice none 0 0 :: .bool false :: .slice none 0 0 :: .slice none 0 0 :: .int .i64 0 :: .slice none 0 0 :: .bool false :: .slice none 0 0 :: .slice none 0 0 :: []),true⟩,⟨aA,0,[.int .i64 0,.slice none 0 0,.bool false,.slice (some ⟨aa,0,none⟩) 8 8,.slice none 0 0],true⟩] [brow ag ah 5 ((D.f 3).o),brow ab ac 5 ((D.f 4).o)])) ?_)
 rintro e_ eI ⟨dR,rfl,cq,aJ⟩
 have aK:=cq.move (Step.refl _ Nil) nilM (aI.laid (G:=F) aJ)
 obtain ⟨ai,aj,ak,al,am,ao,ap,ar,au,av,aw,dS,dT,aL,dE,dF,eJ,eK⟩:=aK.open_
 rw [aL] at aK
 have dG:=dE.small
 have dH:=dF.small
 rw [aL]
 refine ⟨_,rfl,fun eL cr=>?_⟩
 have aS:=aI.next_nil aJ
 have cu:=aI.frN aJ
 have aT:=TT.ofW cu aS
 refine ⟨fun _=>aT,?_⟩
 refine qaE cr (i:=7) (t:=34) (A:=(some ⟨aa,0,none⟩)) (m:=8) (q:=7) (d:=75) kz (e:=37) (size:=5) (bytes:=88) (j:=7) kz (b:=aa) (o:=0) rfl rfl (by decide) kz kz (qab qaf) aT fun eM cw=>?_
 have cz:=cw.recast 75 (.v (.pointer (some ⟨aa,0 + 7 * 5,none⟩))) (.p 2 35) rfl rfl (Nat.le_of_ble_eq_true (n:=3) rfl)
 have cA:=cz.pk (env':=[(0,.p 0 0),(2,.p 1 0),(3,.p 3 0),(69,.v (.slice (some ⟨aa,0,none⟩) 8 8)),(73,.v (.bool ((D.f 7).b))),(74,.v (.agg #[.int .i64 ai,.slice ao aj.length ap,.bool ak,.slice ar al.length au,.slice av am.length aw])),(75,.p 2 35)])
 refine qat (i:=8) kz (qan aS cA (oi:=2) (cs:=(.int .i64 (IntKind.i64.wrap ((D.f 0).n)) :: .slice none 0 0 :: .bool false :: .slice none 0 0 :: .slice none 0 0 :: .int .i64 (IntKind.i64.wrap ((D.f 1).n)) :: .slice none 0 0 :: .bool false :: .slice none 0 0 :: .slice none 0 0 :: .int .i64 (IntKind.i64.wrap ((D.f 2).n)) :: .slice none 0 0 :: .bool false :: .slice none 0 0 :: .slice none 0 0 :: .int .i64 0 :: .slice ag (((D.f 3).o).length) ah :: .bool false :: .slice none 0 0 :: .slice none 0 0 :: .int .i64 0 :: .slice ab (((D.f 4).o).length) ac :: .bool false :: .slice none 0 0 :: .slice none 0 0 :: .int .i64 (IntKind.i64.wrap ((D.f 5).n)) :: .slice none 0 0 :: .bool false :: .slice none 0 0 :: .slice none 0 0 :: .int .i64 ((D.f 6).n) :: .slice none 0 0 :: .bool false :: .slice none 0 0 :: .slice none 0 0 :: .int .i64 ai :: .slice ao aj.length ap :: .bool ak :: .slice ar al.length au :: .slice av am.length aw :: [])) kz fun dI aU ax cB=>?_)
 refine ⟨fun h=>absurd rfl h,?_⟩
 refine qaB kz ?_ _
 refine qac ?_
 refine qae [0,1,2,3,4] kz ?_
 refine qak [0,1,2] [3,4] [(2,.p 1 0),(3,.p 3 0),(78,.p 0 38)] ax cB fun eN cC=>?_
 refine qaj (qes cC (v:=.func (.func 201) #[] #[.pointer (some ⟨aA,0,none⟩)]) (d:=79) kz fun eO cD=>?_)
 refine qaj (qal cD (f:=103) (vs:=[.pointer (some ⟨b,o + 38,none⟩),.func (.func 201) #[] #[.pointer (some ⟨aA,0,none⟩)]]) (d:=80) kz Tryz.call103 (qeX (F:=(Imm F w dI [⟨b,o,(.int .i32 ((D.f 0).n) :: .int .i32 ((D.f 1).n) :: .int .i32 ((D.f 2).n) :: qaa ((D.f 3).o.getD 0 0) :: qaa ((D.f 3).o.getD 1 0) :: qaa ((D.f 3).o.getD 2 0) :: qaa ((D.f 3).o.getD 3 0) :: qaa ((D.f 3).o.getD 4 0) :: qaa ((D.f 3).o.getD 5 0) :: qaa ((D.f 3).o.getD 6 0) :: qaa ((D.f 3).o.getD 7 0) :: qaa ((D.f 3).o.getD 8 0) :: qaa ((D.f 3).o.getD 9 0) :: qaa ((D.f 3).o.getD 10 0) :: qaa ((D.f 3).o.getD 11 0) :: qaa ((D.f 3).o.getD 12 0) :: qaa ((D.f 3).o.getD 13 0) :: qaa ((D.f 3).o.getD 14 0) :: qaa ((D.f 3).o.getD 15 0) :: qaa ((D.f 4).o.getD 0 0) :: qaa ((D.f 4).o.getD 1 0) :: qaa ((D.f 4).o.getD 2 0) :: qaa ((D.f 4).o.getD 3 0) :: qaa ((D.f 4).o.getD 4 0) :: qaa ((D.f 4).o.getD 5 0) :: qaa ((D.f 4).o.getD 6 0) :: qaa ((D.f 4).o.getD 7 0) :: qaa ((D.f 4).o.getD 8 0) :: qaa ((D.f 4).o.getD 9 0) :: qaa ((D.f 4).o.getD 10 0) :: qaa ((D.f 4).o.getD 11 0) :: qaa ((D.f 4).o.getD 12 0) :: qaa ((D.f 4).o.getD 13 0) :: qaa ((D.f 4).o.getD 14 0) :: qaa ((D.f 4).o.getD 15 0) :: .int .i32 ((D.f 5).n) :: .int .i64 ((D.f 6).n) :: .bool ((D.f 7).b) :: .map D.m :: []),false⟩,⟨aE,0,[.int .i64 0,.slice none 0 0,.bool false,.slice none 0 0,.slice none 0 0],true⟩,⟨aa,0,(.int .i64 (IntKind.i64.wrap ((D.f 0).n)) :: .slice none 0 0 :: .bool false :: .slice none 0 0 :: .slice none 0 0 :: .int .i64 (IntKind.i64.wrap ((D.f 1).n)) :: .slice none 0 0 :: .bool false :: .slice none 0 0 :: .slice none 0 0 :: .int .i64 (IntKind.i64.wrap ((D.f 2).n)) :: .slice none 0 0 :: .bool false :: .slice none 0 0 :: .slice none 0 0 :: .int .i64 0 :: .slice ag (((D.f 3).o).length) ah :: .bool false :: .slice none 0 0 :: .slice none 0 0 :: .int .i64 0 :: .slice ab (((D.f 4).o).length) ac :: .bool false :: .slice none 0 0 :: .slice none 0 0 :: .int .i64 (IntKind.i64.wrap ((D.f 5).n)) :: .slice none 0 0 :: .bool false :: .slice none 0 0 :: .slice none 0 0 :: .int .i64 ((D.f 6).n) :: .slice none 0 0 :: .bool false :: .slice none 0 0 :: .slice none 0 0 :: .int .i64 ai :: .slice ao aj.length ap :: .bool ak :: .slice ar al.length au :: .slice av am.length aw :: []),true⟩,⟨aA,0,[.int .i64 0,.slice none 0 0,.bool false,.slice (some ⟨aa,0,none⟩) 8 8,.slice none 0 0],true⟩] [brow ag ah 5 ((D.f 3).o),brow ab ac 5 ((D.f 4).o)])) Tryz.call201 qco ((hat.one 38 rfl).move ax.step nilM ax.imm) (g9.move ax.step nilM ax.imm) (Str.of ax 3 rfl) (qjy 3 rfl) g9l) ?_)
 rintro e_ eP ⟨rfl,ae,af,aZ,cE,cG⟩
 obtain ⟨aM,aV,cH⟩:=ax.wrote 3 [⟨b,o,(.int .i32 ((D.f 0).n) :: .int .i32 ((D.f 1).n) :: .int .i32 ((D.f 2).n) :: qaa ((D.f 3).o.getD 0 0) :: qaa ((D.f 3).o.getD 1 0) :: qaa ((D.f 3).o.getD 2 0) :: qaa ((D.f 3).o.getD 3 0) :: qaa ((D.f 3).o.getD 4 0) :: qaa ((D.f 3).o.getD 5 0) :: qaa ((D.f 3).o.getD 6 0) :: qaa ((D.f 3).o.getD 7 0) :: qaa ((D.f 3).o.getD 8 0) :: qaa ((D.f 3).o.getD 9 0) :: qaa ((D.f 3).o.getD 10 0) :: qaa ((D.f 3).o.getD 11 0) :: qaa ((D.f 3).o.getD 12 0) :: qaa ((D.f 3).o.getD 13 0) :: qaa ((D.f 3).o.getD 14 0) :: qaa ((D.f 3).o.getD 15 0) :: qaa ((D.f 4).o.getD 0 0) :: qaa ((D.f 4).o.getD 1 0) :: qaa ((D.f 4).o.getD 2 0) :: qaa ((D.f 4).o.getD 3 0) :: qaa ((D.f 4).o.getD 4 0) :: qaa ((D.f 4).o.getD 5 0) :: qaa ((D.f 4).o.getD 6 0) :: qaa ((D.f 4).o.getD 7 0) :: qaa ((D.f 4).o.getD 8 0) :: qaa ((D.f 4).o.getD 9 0) :: qaa ((D.f 4).o.getD 10 0) :: qaa ((D.f 4).o.getD 11 0) :: qaa ((D.f 4).o.getD 12 0) :: qaa ((D.f 4).o.getD 13 0) :: qaa ((D.f 4).o.getD 14 0) :: qaa ((D.f 4).o.getD 15 0) :: .int .i32 ((D.f 5).n) :: .int .i64 ((D.f 6).n) :: .bool ((D.f 7).b) :: .map D.m :: []),false⟩,⟨aE,0,[.int .i64 0,.slice none 0 0,.bool false,.slice none 0 0,.slice none 0 0],true⟩,⟨aa,0,(.int .i64 (IntKind.i64.wrap ((D.f 0).n)) :: .slice none 0 0 :: .bool false :: .slice none 0 0 :: .slice none 0 0 :: .int .i64 (IntKind.i64.wrap ((D.f 1).n)) :: .slice none 0 0 :: .bool false :: .slice none 0 0 :: .slice none 0 0 :: .int .i64 (IntKind.i64.wrap ((D.f 2).n)) :: .slice none 0 0 :: .bool false :: .slice none 0 0 :: .slice none 0 0 :: .int .i64 0 :: .slice ag (((D.f 3).o).length) ah :: .bool false :: .slice none 0 0 :: .slice none 0 0 :: .int .i64 0 :: .slice ab (((D.f 4).o).length) ac :: .bool false :: .slice none 0 0 :: .slice none 0 0 :: .int .i64 (IntKind.i64.wrap ((D.f 5).n)) :: .slice none 0 0 :: .bool false :: .slice none 0 0 :: .slice none 0 0 :: .int .i64 ((D.f 6).n) :: .slice none 0 0 :: .bool false :: .slice none 0 0 :: .slice none 0 0 :: .int .i64 ai :: .slice ao aj.length ap :: .bool ak :: .slice ar al.length au :: .slice av am.length aw :: []),true⟩,⟨aA,0,[.int .i64 0,.slice none 0 0,.bool false,.slice (some ⟨aa,0,none⟩) 8 8,.slice ae D.u.length af],true⟩] rfl cG aZ
 have aW:=cE.move (Step.refl _ Nil) nilM (fun b_ o_ h_ hb_=>cH (G:=F) b_ o_ (.inr h_) hb_)
 refine ⟨_,rfl,fun eQ cI=>?_⟩
 have cJ:=(EnvOk.places (tb':=[⟨b,o,(.int .i32 ((D.f 0).n) :: .int .i32 ((D.f 1).n) :: .int .i32 ((D.f 2).n) :: qaa ((D.f 3).o.getD 0 0) :: qaa ((D.f 3).o.getD 1 0) :: qaa ((D.f 3).o.getD 2 0) :: qaa ((D.f 3).o.getD 3 0) :: qaa ((D.f 3).o.getD 4 0) :: qaa ((D.f 3).o.getD 5 0) :: qaa ((D.f 3).o.getD 6 0) :: qaa ((D.f 3).o.getD 7 0) :: qaa ((D.f 3).o.getD 8 0) :: qaa ((D.f 3).o.getD 9 0) :: qaa ((D.f 3).o.getD 10 0) :: qaa ((D.f 3).o.getD 11 0) :: qaa ((D.f 3).o.getD 12 0) :: qaa ((D.f 3).o.getD 13 0) :: qaa ((D.f 3).o.getD 14 0) :: qaa ((D.f 3).o.getD 15 0) :: qaa ((D.f 4).o.getD 0 0) :: qaa ((D.f 4).o.getD 1 0) :: qaa ((D.f 4).o.getD 2 0) :: qaa ((D.f 4).o.getD 3 0) :: qaa ((D.f 4).o.getD 4 0) :: qaa ((D.f 4).o.getD 5 0) :: qaa ((D.f 4).o.getD 6 0) :: qaa ((D.f 4).o.getD 7 0) :: qaa ((D.f 4).o.getD 8 0) :: qaa ((D.f 4).o.getD 9 0) :: qaa ((D.f 4).o.getD 10 0) :: qaa ((D.f 4).o.getD 11 0) :: qaa ((D.f 4).o.getD 12 0) :: qaa ((D.f 4).o.getD 13 0) :: qaa ((D.f 4).o.getD 14 0) :: qaa ((D.f 4).o.getD 15 0) :: .int .i32 ((D.f 5).n) :: .int .i64 ((D.f 6).n) :: .bool ((D.f 7).b) :: .map D.m :: []),false⟩,⟨aE,0,[.int .i64 0,.slice none 0 0,.bool false,.slice none 0 0,.slice none 0 0],true⟩,⟨aa,0,(.int .i64 (IntKind.i64.wrap ((D.f 0).n)) :: .slice none 0 0 :: .bool false :: .slice none 0 0 :: .slice none 0 0 :: .int .i64 (IntKind.i64.wrap ((D.f 1).n)) :: .slice none 0 0 :: .bool false :: .slice none 0 0 :: .slice none 0 0 :: .int .i64 (IntKind.i64.wrap ((D.f 2).n)) :: .slice none 0 0 :: .bool false :: .slice none 0 0 :: .slice none 0 0 :: .int .i64 0 :: .slice ag (((D.f 3).o).length) ah :: .bool false :: .slice none 0 0 :: .slice none 0 0 :: .int .i64 0 :: .slice ab (((D.f 4).o).length) ac :: .bool false :: .slice none 0 0 :: .slice none 0 0 :: .int .i64 (IntKind.i64.wrap ((D.f 5).n)) :: .slice none 0 0 :: .bool false :: .slice none 0 0 :: .slice none 0 0 :: .int .i64 ((D.f 6).n) :: .slice none 0 0 :: .bool false :: .slice none 0 0 :: .slice none 0 0 :: .int .i64 ai :: .slice ao aj.length ap :: .bool ak :: .slice ar al.length au :: .slice av am.length aw :: []),true⟩,⟨aA,0,[.int .i64 0,.slice none 0 0,.bool false,.slice (some ⟨aa,0,none⟩) 8 8,.slice ae D.u.length af],true⟩]) cI (show Pl [⟨b,o,(.int .i32 ((D.f 0).n) :: .int .i32 ((D.f 1).n) :: .int .i32 ((D.f 2).n) :: qaa ((D.f 3).o.getD 0 0) :: qaa ((D.f 3).o.getD 1 0) :: qaa ((D.f 3).o.getD 2 0) :: qaa ((D.f 3).o.getD 3 0) :: qaa ((D.f 3).o.getD 4 0) :: qaa ((D.f 3).o.getD 5 0) :: qaa ((D.f 3).o.getD 6 0) :: qaa ((D.f 3).o.getD 7 0) :: qaa ((D.f 3).o.getD 8 0) :: qaa ((D.f 3).o.getD 9 0) :: qaa ((D.f 3).o.getD 10 0) :: qaa ((D.f 3).o.getD 11 0) :: qaa ((D.f 3).o.getD 12 0) :: qaa ((D.f 3).o.getD 13 0) :: qaa ((D.f 3).o.getD 14 0) :: qaa ((D.f 3).o.getD 15 0) :: qaa ((D.f 4).o.getD 0 0) :: qaa ((D.f 4).o.getD 1 0) :: qaa ((D.f 4).o.getD 2 0) :: qaa ((D.f 4).o.getD 3 0) :: qaa ((D.f 4).o.getD 4 0) :: qaa ((D.f 4).o.getD 5 0) :: qaa ((D.f 4).o.getD 6 0) :: qaa ((D.f 4).o.getD 7 0) :: qaa ((D.f 4).o.getD 8 0) :: qaa ((D.f 4).o.getD 9 0) :: qaa ((D.f 4).o.getD 10 0) :: qaa ((D.f 4).o.getD 11 0) :: qaa ((D.f 4).o.getD 12 0) :: qaa ((D.f 4).o.getD 13 0) :: qaa ((D.f 4).o.getD 14 0) :: qaa ((D.f 4).o.getD 15 0) :: .int .i32 ((D.f 5).n) :: .int .i64 ((D.f 6).n) :: .bool ((D.f 7).b) :: .map D.m :: []),false⟩,⟨aE,0,[.int .i64 0,.slice none 0 0,.bool false,.slice none 0 0,.slice none 0 0],true⟩,⟨aa,0,(.int .i64 (IntKind.i64.wrap ((D.f 0).n)) :: .slice none 0 0 :: .bool false :: .slice none 0 0 :: .slice none 0 0 :: .int .i64 (IntKind.i64.wrap ((D.f 1).n)) :: .slice none 0 0 :: .bool false :: .slice none 0 0 :: .slice none 0 0 :: .int .i64 (IntKind.i64.wrap ((D.f 2).n)) :: .slice none 0 0 :: .bool false :: .slice none 0 0 :: .slice none 0 0 :: .int .i64 0 :: .slice ag (((D.f 3).o).length) ah :: .bool false :: .slice none 0 0 :: .slice none 0 0 :: .int .i64 0 :: .slice ab (((D.f 4).o).length) ac :: .bool false :: .slice none 0 0 :: .slice none 0 0 :: .int .i64 (IntKind.i64.wrap ((D.f 5).n)) :: .slice none 0 0 :: .bool false :: .slice none 0 0 :: .slice none 0 0 :: .int .i64 ((D.f 6).n) :: .slice none 0 0 :: .bool false :: .slice none 0 0 :: .slice none 0 0 :: .int .i64 ai :: .slice ao aj.length ap :: .bool ak :: .slice ar al.length au :: .slice av am.length aw :: []),true⟩,⟨aA,0,[.int .i64 0,.slice none 0 0,.bool false,.slice (some ⟨aa,0,none⟩) 8 8,.slice none 0 0],true⟩] [⟨b,o,(.int .i32 ((D.f 0).n) :: .int .i32 ((D.f 1).n) :: .int .i32 ((D.f 2).n) :: qaa ((D.f 3).o.getD 0 0) :: qaa ((D.f 3).o.getD 1 0) :: qaa ((D.f 3).o.getD 2 0) :: qaa ((D.f 3).o.getD 3 0) :: qaa ((D.f 3).o.getD 4 0) :: qaa ((D.f 3).o.getD 5 0) :: qaa ((D.f 3).o.getD 6 0) :: qaa ((D.f 3).o.getD 7 0) :: qaa ((D.f 3).o.getD 8 0) :: qaa ((D.f 3).o.getD 9 0) :: qaa ((D.f 3).o.getD 10 0) :: qaa ((D.f 3).o.getD 11 0) :: qaa ((D.f 3).o.getD 12 0) :: qaa ((D.f 3).o.getD 13 0) :: qaa ((D.f 3).o.getD 14 0) :: qaa ((D.f 3).o.getD 15 0) :: qaa ((D.f 4).o.getD 0 0) :: qaa ((D.f 4).o.getD 1 0) :: qaa ((D.f 4).o.getD 2 0) :: qaa ((D.f 4).o.getD 3 0) :: qaa ((D.f 4).o.getD 4 0) :: qaa ((D.f 4).o.getD 5 0) :: qaa ((D.f 4).o.getD 6 0) :: qaa ((D.f 4).o.getD 7 0) :: qaa ((D.f 4).o.getD 8 0) :: qaa ((D.f 4).o.getD 9 0) :: qaa ((D.f 4).o.getD 10 0) :: qaa ((D.f 4).o.getD 11 0) :: qaa ((D.f 4).o.getD 12 0) :: qaa ((D.f 4).o.getD 13 0) :: qaa ((D.f 4).o.getD 14 0) :: qaa ((D.f 4).o.getD 15 0) :: .int .i32 ((D.f 5).n) :: .int .i64 ((D.f 6).n) :: .bool ((D.f 7).b) :: .map D.m :: []),false⟩,⟨aE,0,[.int .i64 0,.slice none 0 0,.bool false,.slice none 0 0,.slice none 0 0],true⟩,⟨aa,0,(.int .i64 (IntKind.i64.wrap ((D.f 0).n)) :: .slice none 0 0 :: .bool false :: .slice none 0 0 :: .slice none 0 0 :: .int .i64 (IntKind.i64.wrap ((D.f 1).n)) :: .slice none 0 0 :: .bool false :: .slice none 0 0 :: .slice none 0 0 :: .int .i64 (IntKind.i64.wrap ((D.f 2).n)) :: .slice none 0 0 :: .bool false :: .slice none 0 0 :: .slice none 0 0 :: .int .i64 0 :: .slice ag (((D.f 3).o).length) ah :: .bool false :: .slice none 0 0 :: .slice none 0 0 :: .int .i64 0 :: .slice ab (((D.f 4).o).length) ac :: .bool false :: .slice none 0 0 :: .slice none 0 0 :: .int .i64 (IntKind.i64.wrap ((D.f 5).n)) :: .slice none 0 0 :: .bool false :: .slice none 0 0 :: .slice none 0 0 :: .int .i64 ((D.f 6).n) :: .slice none 0 0 :: .bool false :: .slice none 0 0 :: .slice none 0 0 :: .int .i64 ai :: .slice ao aj.length ap :: .bool ak :: .slice ar al.length au :: .slice av am.length aw :: []),true⟩,⟨aA,0,[.int .i64 0,.slice none 0 0,.bool false,.slice (some ⟨aa,0,none⟩) 8 8,.slice ae D.u.length af],true⟩] from ⟨rfl,rfl,⟨rfl,rfl,⟨rfl,rfl,⟨rfl,rfl,trivial⟩⟩⟩⟩)).pk (env':=[(80,.v (.tuple #[])),(2,.p 1 0),(3,.p 3 0),(78,.p 0 38),(79,.v (.func (.func 201) #[] #[.pointer (some ⟨aA,0,none⟩)]))])
 refine qag (qac ?_)
 refine qae [0,1,2] kz ?_
 refine qak [0,1] [2] [(2,.p 1 0),(3,.p 3 0),(82,.v (.slice ae D.u.length af))] aM cJ fun eR cK=>?_
 refine qaj (qal cK (f:=105) (vs:=[.slice ae D.u.length af]) (d:=83) kz Tryz.call105 (qgY aW g9.sorted) ?_)
 rintro e_ eS ⟨rfl,aX⟩
 refine ⟨_,rfl,fun eU cL=>?_⟩
 have aY:=aM.next_nil aX
 have aC:=aM.frN aX
 refine qag (qac ?_)
 refine qae [0,1] kz ?_
 refine qak [0] [1] [(2,.p 1 0),(84,.v (.agg #[.int .i64 0,.slice none 0 0,.bool false,.slice (some ⟨aa,0,none⟩) 8 8,.slice ae D.u.length af]))] aY cL fun eV cM=>?_
 refine qaj (qan aY cM (oi:=1) (cs:=[.int .i64 0,.slice none 0 0,.bool false,.slice (some ⟨aa,0,none⟩) 8 8,.slice ae D.u.length af]) kz fun aB aD ay cN=>?_)
 refine qag (qac ?_)
 refine wp_ret ?_
 refine qaP cN ay.cells (v:=.agg #[.int .i64 0,.slice none 0 0,.bool false,.slice (some ⟨aa,0,none⟩) 8 8,.slice ae D.u.length af]) kz ?_
 exact qfP (u:=D.u) (l:=[.mk (IntKind.i64.wrap (D.f 0).n) [] false [] [],.mk (IntKind.i64.wrap (D.f 1).n) [] false [] [],.mk (IntKind.i64.wrap (D.f 2).n) [] false [] [],.mk 0 (D.f 3).o false [] [],.mk 0 (D.f 4).o false [] [],.mk (IntKind.i64.wrap (D.f 5).n) [] false [] [],.mk ((D.f 6).n) [] false [] [],qku (D.f 7).b]) (css:=[[.int .i64 (IntKind.i64.wrap ((D.f 0).n)),.slice none 0 0,.bool false,.slice none 0 0,.slice none 0 0],[.int .i64 (IntKind.i64.wrap ((D.f 1).n)),.slice none 0 0,.bool false,.slice none 0 0,.slice none 0 0],[.int .i64 (IntKind.i64.wrap ((D.f 2).n)),.slice none 0 0,.bool false,.slice none 0 0,.slice none 0 0],[.int .i64 0,.slice ag (((D.f 3).o).length) ah,.bool false,.slice none 0 0,.slice none 0 0],[.int .i64 0,.slice ab (((D.f 4).o).length) ac,.bool false,.slice none 0 0,.slice none 0 0],[.int .i64 (IntKind.i64.wrap ((D.f 5).n)),.slice none 0 0,.bool false,.slice none 0 0,.slice none 0 0],[.int .i64 ((D.f 6).n),.slice none 0 0,.bool false,.slice none 0 0,.slice none 0 0],[.int .i64 ai,.slice ao aj.length ap,.bool ak,.slice ar al.length au,.slice av am.length aw]]) ay 2 rfl ⟨(show TreeR _ (Imm F w aB [⟨b,o,(.int .i32 ((D.f 0).n) :: .int .i32 ((D.f 1).n) :: .int .i32 ((D.f 2).n) :: qaa ((D.f 3).o.getD 0 0) :: qaa ((D.f 3).o.getD 1 0) :: qaa ((D.f 3).o.getD 2 0) :: qaa ((D.f 3).o.getD 3 0) :: qaa ((D.f 3).o.getD 4 0) :: qaa ((D.f 3).o.getD 5 0) :: qaa ((D.f 3).o.getD 6 0) :: qaa ((D.f 3).o.getD 7 0) :: qaa ((D.f 3).o.getD 8 0) :: qaa ((D.f 3).o.getD 9 0) :: qaa ((D.f 3).o.getD 10 0) :: qaa ((D.f 3).o.getD 11 0) :: qaa ((D.f 3).o.getD 12 0) :: qaa ((D.f 3).o.getD 13 0) :: qaa ((D.f 3).o.getD 14 0) :: qaa ((D.f 3).o.getD 15 0) :: qaa ((D.f 4).o.getD 0 0) :: qaa ((D.f 4).o.getD 1 0) :: qaa ((D.f 4).o.getD 2 0) :: qaa ((D.f 4).o.getD 3 0) :: qaa ((D.f 4).o.getD 4 0) :: qaa ((D.f 4).o.getD 5 0) :: qaa ((D.f 4).o.getD 6 0) :: qaa ((D.f 4).o.getD 7 0) :: qaa ((D.f 4).o.getD 8 0) :: qaa ((D.f 4).o.getD 9 0) :: qaa ((D.f 4).o.getD 10 0) :: qaa ((D.f 4).o.getD 11 0) :: qaa ((D.f 4).o.getD 12 0) :: qaa ((D.f 4).o.getD 13 0) :: qaa ((D.f 4).o.getD 14 0) :: qaa ((D.f 4).o.getD 15 0) :: .int .i32 ((D.f 5).n) :: .int .i64 ((D.f 6).n) :: .bool ((D.f 7).b) :: .map D.m :: []),false⟩,⟨aE,0,[.int .i64 0,.slice none 0 0,.bool false,.slice (some ⟨aa,0,none⟩) 8 8,.slice ae D.u.length af],true⟩,⟨aa,0,(.int .i64 (IntKind.i64.wrap ((D.f 0).n)) :: .slice none 0 0 :: .bool false :: .slice none 0 0 :: .slice none 0 0 :: .int .i64 (IntKind.i64.wrap ((D.f 1).n)) :: .slice none 0 0 :: .bool false :: .slice none 0 0 :: .slice none 0 0 :: .int .i64 (IntKind.i64.wrap ((D.f 2).n)) :: .slice none 0 0 :: .bool false :: .slice none 0 0 :: .slice none 0 0 :: .int .i64 0 :: .slice ag (((D.f 3).o).length) ah :: .bool false :: .slice none 0 0 :: .slice none 0 0 :: .int .i64 0 :: .slice ab (((D.f 4).o).length) ac :: .bool false :: .slice none 0 0 :: .slice none 0 0 :: .int .i64 (IntKind.i64.wrap ((D.f 5).n)) :: .slice none 0 0 :: .bool false :: .slice none 0 0 :: .slice none 0 0 :: .int .i64 ((D.f 6).n) :: .slice none 0 0 :: .bool false :: .slice none 0 0 :: .slice none 0 0 :: .int .i64 ai :: .slice ao aj.length ap :: .bool ak :: .slice ar al.length au :: .slice av am.length aw :: []),true⟩,⟨aA,0,[.int .i64 0,.slice none 0 0,.bool false,.slice (some ⟨aa,0,none⟩) 8 8,.slice ae D.u.length af],true⟩] [brow ag ah 5 ((D.f 3).o),brow ab ac 5 ((D.f 4).o)]) _ _ from (TreeR.mk (n:=IntKind.i64.wrap ((D.f 0).n)) (b:=false) (s:=[]) (l:=[]) (u:=[]) (fun _=>[]) (Octs.nil _ _) (Slots.nil _ _ _ _) (fun i_ x_ h_=>by simp at h_) (TagsR.nil _ _))).move (Step.refl _ Nil) nilM qbp,(show TreeR _ (Imm F w aB [⟨b,o,(.int .i32 ((D.f 0).n) :: .int .i32 ((D.f 1).n) :: .int .i32 ((D.f 2).n) :: qaa ((D.f 3).o.getD 0 0) :: qaa ((D.f 3).o.getD 1 0) :: qaa ((D.f 3).o.getD 2 0) :: qaa ((D.f 3).o.getD 3 0) :: qaa ((D.f 3).o.getD 4 0) :: qaa ((D.f 3).o.getD 5 0) :: qaa ((D.f 3).o.getD 6 0) :: qaa ((D.f 3).o.getD 7 0) :: qaa ((D.f 3).o.getD 8 0) :: qaa ((D.f 3).o.getD 9 0) :: qaa ((D.f 3).o.getD 10 0) :: qaa ((D.f 3).o.getD 11 0) :: qaa ((D.f 3).o.getD 12 0) :: qaa ((D.f 3).o.getD 13 0) :: qaa ((D.f 3).o.getD 14 0) :: qaa ((D.f 3).o.getD 15 0) :: qaa ((D.f 4).o.getD 0 0) :: qaa ((D.f 4).o.getD 1 0) :: qaa ((D.f 4).o.getD 2 0) :: qaa ((D.f 4).o.getD 3 0) :: qaa ((D.f 4).o.getD 4 0) :: qaa ((D.f 4).o.getD 5 0) :: qaa ((D.f 4).o.getD 6 0) :: qaa ((D.f 4).o.getD 7 0) :: qaa ((D.f 4).o.getD 8 0) :: qaa ((D.f 4).o.getD 9 0) :: qaa ((D.f 4).o.getD 10 0) :: qaa ((D.f 4).o.getD 11 0) :: qaa ((D.f 4).o.getD 12 0) :: qaa ((D.f 4).o.getD 13 0) :: qaa ((D.f 4).o.getD 14 0) :: qaa ((D.f 4).o.getD 15 0) :: .int .i32 ((D.f 5).n) :: .int .i64 ((D.f 6).n) :: .bool ((D.f 7).b) :: .map D.m :: []),false⟩,⟨aE,0,[.int .i64 0,.slice none 0 0,.bool false,.slice (some ⟨aa,0,none⟩) 8 8,.slice ae D.u.length af],true⟩,⟨aa,0,(.int .i64 (IntKind.i64.wrap ((D.f 0).n)) :: .slice none 0 0 :: .bool false :: .slice none 0 0 :: .slice none 0 0 :: .int .i64 (IntKind.i64.wrap ((D.f 1).n)) :: .slice none 0 0 :: .bool false :: .slice none 0 0 :: .slice none 0 0 :: .int .i64 (IntKind.i64.wrap ((D.f 2).n)) :: .slice none 0 0 :: .bool false :: .slice none 0 0 :: .slice none 0 0 :: .int .i64 0 :: .slice ag (((D.f 3).o).length) ah :: .bool false :: .slice none 0 0 :: .slice none 0 0 :: .int .i64 0 :: .slice ab (((D.f 4).o).length) ac :: .bool false :: .slice none 0 0 :: .slice none 0 0 :: .int .i64 (IntKind.i64.wrap ((D.f 5).n)) :: .slice none 0 0 :: .bool false :: .slice none 0 0 :: .slice none 0 0 :: .int .i64 ((D.f 6).n) :: .slice none 0 0 :: .bool false :: .slice none 0 0 :: .slice none 0 0 :: .int .i64 ai :: .slice ao aj.length ap :: .bool ak :: .slice ar al.length au :: .slice av am.length aw :: []),true⟩,⟨aA,0,[.int .i64 0,.slice none 0 0,.bool false,.slice (some ⟨aa,0,none⟩) 8 8,.slice ae D.u.length af],true⟩] [brow ag ah 5 ((D.f 3).o),brow ab ac 5 ((D.f 4).o)]) _ _ from (TreeR.mk (n:=IntKind.i64.wrap ((D.f 1).n)) (b:=false) (s:=[]) (l:=[]) (u:=[]) (fun _=>[]) (Octs.nil _ _) (Slots.nil _ _ _ _) (fun i_ x_ h_=>by simp at h_) (TagsR.nil _ _))).move (Step.refl _ Nil) nilM qbp,(show TreeR _ (Imm F w aB [⟨b,o,(.int .i32 ((D.f 0).n) :: .int .i32 ((D.f 1).n) :: .int .i32 ((D.f 2).n) :: qaa ((D.f 3).o.getD 0 0) :: qaa ((D.f 3).o.getD 1 0) :: qaa ((D.f 3).o.getD 2 0) :: qaa ((D.f 3).o.getD 3 0) :: qaa ((D.f 3).o.getD 4 0) :: qaa ((D.f 3).o.getD 5 0) :: qaa ((D.f 3).o.getD 6 0) :: qaa ((D.f 3).o.getD 7 0) :: qaa ((D.f 3).o.getD 8 0) :: qaa ((D.f 3).o.getD 9 0) :: qaa ((D.f 3).o.getD 10 0) :: qaa ((D.f 3).o.getD 11 0) :: qaa ((D.f 3).o.getD 12 0) :: qaa ((D.f 3).o.getD 13 0) :: qaa ((D.f 3).o.getD 14 0) :: qaa ((D.f 3).o.getD 15 0) :: qaa ((D.f 4).o.getD 0 0) :: qaa ((D.f 4).o.getD 1 0) :: qaa ((D.f 4).o.getD 2 0) :: qaa ((D.f 4).o.getD 3 0) :: qaa ((D.f 4).o.getD 4 0) :: qaa ((D.f 4).o.getD 5 0) :: qaa ((D.f 4).o.getD 6 0) :: qaa ((D.f 4).o.getD 7 0) :: qaa ((D.f 4).o.getD 8 0) :: qaa ((D.f 4).o.getD 9 0) :: qaa ((D.f 4).o.getD 10 0) :: qaa ((D.f 4).o.getD 11 0) :: qaa ((D.f 4).o.getD 12 0) :: qaa ((D.f 4).o.getD 13 0) :: qaa ((D.f 4).o.getD 14 0) :: qaa ((D.f 4).o.getD 15 0) :: .int .i32 ((D.f 5).n) :: .int .i64 ((D.f 6).n) :: .bool ((D.f 7).b) :: .map D.m :: []),false⟩,⟨aE,0,[.int .i64 0,.slice none 0 0,.bool false,.slice (some ⟨aa,0,none⟩) 8 8,.slice ae D.u.length af],true⟩,⟨aa,0,(.int .i64 (IntKind.i64.wrap ((D.f 0).n)) :: .slice none 0 0 :: .bool false :: .slice none 0 0 :: .slice none 0 0 :: .int .i64 (IntKind.i64.wrap ((D.f 1).n)) :: .slice none 0 0 :: .bool false :: .slice none 0 0 :: .slice none 0 0 :: .int .i64 (IntKind.i64.wrap ((D.f 2).n)) :: .slice none 0 0 :: .bool false :: .slice none 0 0 :: .slice none 0 0 :: .int .i64 0 :: .slice ag (((D.f 3).o).length) ah :: .bool false :: .slice none 0 0 :: .slice none 0 0 :: .int .i64 0 :: .slice ab (((D.f 4).o).length) ac :: .bool false :: .slice none 0 0 :: .slice none 0 0 :: .int .i64 (IntKind.i64.wrap ((D.f 5).n)) :: .slice none 0 0 :: .bool false :: .slice none 0 0 :: .slice none 0 0 :: .int .i64 ((D.f 6).n) :: .slice none 0 0 :: .bool false :: .slice none 0 0 :: .slice none 0 0 :: .int .i64 ai :: .slice ao aj.length ap :: .bool ak :: .slice ar al.length au :: .slice av am.length aw :: []),true⟩,⟨aA,0,[.int .i64 0,.slice none 0 0,.bool false,.slice (some ⟨aa,0,none⟩) 8 8,.slice ae D.u.length af],true⟩] [brow ag ah 5 ((D.f 3).o),brow ab ac 5 ((D.f 4).o)]) _ _ from (TreeR.mk (n:=IntKind.i64.wrap ((D.f 2).n)) (b:=false) (s:=[]) (l:=[]) (u:=[]) (fun _=>[]) (Octs.nil _ _) (Slots.nil _ _ _ _) (fun i_ x_ h_=>by simp at h_) (TagsR.nil _ _))).move (Step.refl _ Nil) nilM qbp,TreeR.mk (n:=0) (b:=false) (l:=[]) (u:=[]) (fun _=>[]) (qcV (ay.own 0 _ rfl) (by rw [g4]; decide) (qgb (F:=F) ay (k:=0) rfl)) (Slots.nil _ _ 5 _) (fun _ _ h_=>by simp at h_) (TagsR.nil _ _),TreeR.mk (n:=0) (b:=false) (l:=[]) (u:=[]) (fun _=>[]) (qcV (ay.own 1 _ rfl) (by rw [g5]; decide) (qgb (F:=F) ay (k:=1) rfl)) (Slots.nil _ _ 5 _) (fun _ _ h_=>by simp at h_) (TagsR.nil _ _),(show TreeR _ (Imm F w aB [⟨b,o,(.int .i32 ((D.f 0).n) :: .int .i32 ((D.f 1).n) :: .int .i32 ((D.f 2).n) :: qaa ((D.f 3).o.getD 0 0) :: qaa ((D.f 3).o.getD 1 0) :: qaa ((D.f 3).o.getD 2 0) :: qaa ((D.f 3).o.getD 3 0) :: qaa ((D.f 3).o.getD 4 0) :: qaa ((D.f 3).o.getD 5 0) :: qaa ((D.f 3).o.getD 6 0) :: qaa ((D.f 3).o.getD 7 0) :: qaa ((D.f 3).o.getD 8 0) :: qaa ((D.f 3).o.getD 9 0) :: qaa ((D.f 3).o.getD 10 0) :: qaa ((D.f 3).o.getD 11 0) :: qaa ((D.f 3).o.getD 12 0) :: qaa ((D.f 3).o.getD 13 0) :: qaa ((D.f 3).o.getD 14 0) :: qaa ((D.f 3).o.getD 15 0) :: qaa ((D.f 4).o.getD 0 0) :: qaa ((D.f 4).o.getD 1 0) :: qaa ((D.f 4).o.getD 2 0) :: qaa ((D.f 4).o.getD 3 0) :: qaa ((D.f 4).o.getD 4 0) :: qaa ((D.f 4).o.getD 5 0) :: qaa ((D.f 4).o.getD 6 0) :: qaa ((D.f 4).o.getD 7 0) :: qaa ((D.f 4).o.getD 8 0) :: qaa ((D.f 4).o.getD 9 0) :: qaa ((D.f 4).o.getD 10 0) :: qaa ((D.f 4).o.getD 11 0) :: qaa ((D.f 4).o.getD 12 0) :: qaa ((D.f 4).o.getD 13 0) :: qaa ((D.f 4).o.getD 14 0) :: qaa ((D.f 4).o.getD 15 0) :: .int .i32 ((D.f 5).n) :: .int .i64 ((D.f 6).n) :: .bool ((D.f 7).b) :: .map D.m :: []),false⟩,⟨aE,0,[.int .i64 0,.slice none 0 0,.bool false,.slice (some ⟨aa,0,none⟩) 8 8,.slice ae D.u.length af],true⟩,⟨aa,0,(.int .i64 (IntKind.i64.wrap ((D.f 0).n)) :: .slice none 0 0 :: .bool false :: .slice none 0 0 :: .slice none 0 0 :: .int .i64 (IntKind.i64.wrap ((D.f 1).n)) :: .slice none 0 0 :: .bool false :: .slice none 0 0 :: .slice none 0 0 :: .int .i64 (IntKind.i64.wrap ((D.f 2).n)) :: .slice none 0 0 :: .bool false :: .slice none 0 0 :: .slice none 0 0 :: .int .i64 0 :: .slice ag (((D.f 3).o).length) ah :: .bool false :: .slice none 0 0 :: .slice none 0 0 :: .int .i64 0 :: .slice ab (((D.f 4).o).length) ac :: .bool false :: .slice none 0 0 :: .slice none 0 0 :: .int .i64 (IntKind.i64.wrap ((D.f 5).n)) :: .slice none 0 0 :: .bool false :: .slice none 0 0 :: .slice none 0 0 :: .int .i64 ((D.f 6).n) :: .slice none 0 0 :: .bool false :: .slice none 0 0 :: .slice none 0 0 :: .int .i64 ai :: .slice ao aj.length ap :: .bool ak :: .slice ar al.length au :: .slice av am.length aw :: []),true⟩,⟨aA,0,[.int .i64 0,.slice none 0 0,.bool false,.slice (some ⟨aa,0,none⟩) 8 8,.slice ae D.u.length af],true⟩] [brow ag ah 5 ((D.f 3).o),brow ab ac 5 ((D.f 4).o)]) _ _ from (TreeR.mk (n:=IntKind.i64.wrap ((D.f 5).n)) (b:=false) (s:=[]) (l:=[]) (u:=[]) (fun _=>[]) (Octs.nil _ _) (Slots.nil _ _ _ _) (fun i_ x_ h_=>by simp at h_) (TagsR.nil _ _))).move (Step.refl _ Nil) nilM qbp,(show TreeR _ (Imm F w aB [⟨b,o,(.int .i32 ((D.f 0).n) :: .int .i32 ((D.f 1).n) :: .int .i32 ((D.f 2).n) :: qaa ((D.f 3).o.getD 0 0) :: qaa ((D.f 3).o.getD 1 0) :: qaa ((D.f 3).o.getD 2 0) :: qaa ((D.f 3).o.getD 3 0) :: qaa ((D.f 3).o.getD 4 0) :: qaa ((D.f 3).o.getD 5 0) :: qaa ((D.f 3).o.getD 6 0) :: qaa ((D.f 3).o.getD 7 0) :: qaa ((D.f 3).o.getD 8 0) :: qaa ((D.f 3).o.getD 9 0) :: qaa ((D.f 3).o.getD 10 0) :: qaa ((D.f 3).o.getD 11 0) :: qaa ((D.f 3).o.getD 12 0) :: qaa ((D.f 3).o.getD 13 0) :: qaa ((D.f 3).o.getD 14 0) :: qaa ((D.f 3).o.getD 15 0) :: qaa ((D.f 4).o.getD 0 0) :: qaa ((D.f 4).o.getD 1 0) :: qaa ((D.f 4).o.getD 2 0) :: qaa ((D.f 4).o.getD 3 0) :: qaa ((D.f 4).o.getD 4 0) :: qaa ((D.f 4).o.getD 5 0) :: qaa ((D.f 4).o.getD 6 0) :: qaa ((D.f 4).o.getD 7 0) :: qaa ((D.f 4).o.getD 8 0) :: qaa ((D.f 4).o.getD 9 0) :: qaa ((D.f 4).o.getD 10 0) :: qaa ((D.f 4).o.getD 11 0) :: qaa ((D.f 4).o.getD 12 0) :: qaa ((D.f 4).o.getD 13 0) :: qaa ((D.f 4).o.getD 14 0) :: qaa ((D.f 4).o.getD 15 0) :: .int .i32 ((D.f 5).n) :: .int .i64 ((D.f 6).n) :: .bool ((D.f 7).b) :: .map D.m :: []),false⟩,⟨aE,0,[.int .i64 0,.slice none 0 0,.bool false,.slice (some ⟨aa,0,none⟩) 8 8,.slice ae D.u.length af],true⟩,⟨aa,0,(.int .i64 (IntKind.i64.wrap ((D.f 0).n)) :: .slice none 0 0 :: .bool false :: .slice none 0 0 :: .slice none 0 0 :: .int .i64 (IntKind.i64.wrap ((D.f 1).n)) :: .slice none 0 0 :: .bool false :: .slice none 0 0 :: .slice none 0 0 :: .int .i64 (IntKind.i64.wrap ((D.f 2).n)) :: .slice none 0 0 :: .bool false :: .slice none 0 0 :: .slice none 0 0 :: .int .i64 0 :: .slice ag (((D.f 3).o).length) ah :: .bool false :: .slice none 0 0 :: .slice none 0 0 :: .int .i64 0 :: .slice ab (((D.f 4).o).length) ac :: .bool false :: .slice none 0 0 :: .slice none 0 0 :: .int .i64 (IntKind.i64.wrap ((D.f 5).n)) :: .slice none 0 0 :: .bool false :: .slice none 0 0 :: .slice none 0 0 :: .int .i64 ((D.f 6).n) :: .slice none 0 0 :: .bool false :: .slice none 0 0 :: .slice none 0 0 :: .int .i64 ai :: .slice ao aj.length ap :: .bool ak :: .slice ar al.length au :: .slice av am.length aw :: []),true⟩,⟨aA,0,[.int .i64 0,.slice none 0 0,.bool false,.slice (some ⟨aa,0,none⟩) 8 8,.slice ae D.u.length af],true⟩] [brow ag ah 5 ((D.f 3).o),brow ab ac 5 ((D.f 4).o)]) _ _ from (TreeR.mk (n:=(D.f 6).n) (b:=false) (s:=[]) (l:=[]) (u:=[]) (fun _=>[]) (Octs.nil _ _) (Slots.nil _ _ _ _) (fun i_ x_ h_=>by simp at h_) (TagsR.nil _ _))).move (Step.refl _ Nil) nilM qbp,(show TreeR _ (Imm F w aB [⟨b,o,(.int .i32 ((D.f 0).n) :: .int .i32 ((D.f 1).n) :: .int .i32 ((D.f 2).n) :: qaa ((D.f 3).o.getD 0 0) :: qaa ((D.f 3).o.getD 1 0) :: qaa ((D.f 3).o.getD 2 0) :: qaa ((D.f 3).o.getD 3 0) :: qaa ((D.f 3).o.getD 4 0) :: qaa ((D.f 3).o.getD 5 0) :: qaa ((D.f 3).o.getD 6 0) :: qaa ((D.f 3).o.getD 7 0) :: qaa ((D.f 3).o.getD 8 0) :: qaa ((D.f 3).o.getD 9 0) :: qaa ((D.f 3).o.getD 10 0) :: qaa ((D.f 3).o.getD 11 0) :: qaa ((D.f 3).o.getD 12 0) :: qaa ((D.f 3).o.getD 13 0) :: qaa ((D.f 3).o.getD 14 0) :: qaa ((D.f 3).o.getD 15 0) :: qaa ((D.f 4).o.getD 0 0) :: qaa ((D.f 4).o.getD 1 0) :: qaa ((D.f 4).o.getD 2 0) :: qaa ((D.f 4).o.getD 3 0) :: qaa ((D.f 4).o.getD 4 0) :: qaa ((D.f 4).o.getD 5 0) :: qaa ((D.f 4).o.getD 6 0) :: qaa ((D.f 4).o.getD 7 0) :: qaa ((D.f 4).o.getD 8 0) :: qaa ((D.f 4).o.getD 9 0) :: qaa ((D.f 4).o.getD 10 0) :: qaa ((D.f 4).o.getD 11 0) :: qaa ((D.f 4).o.getD 12 0) :: qaa ((D.f 4).o.getD 13 0) :: qaa ((D.f 4).o.getD 14 0) :: qaa ((D.f 4).o.getD 15 0) :: .int .i32 ((D.f 5).n) :: .int .i64 ((D.f 6).n) :: .bool ((D.f 7).b) :: .map D.m :: []),false⟩,⟨aE,0,[.int .i64 0,.slice none 0 0,.bool false,.slice (some ⟨aa,0,none⟩) 8 8,.slice ae D.u.length af],true⟩,⟨aa,0,(.int .i64 (IntKind.i64.wrap ((D.f 0).n)) :: .slice none 0 0 :: .bool false :: .slice none 0 0 :: .slice none 0 0 :: .int .i64 (IntKind.i64.wrap ((D.f 1).n)) :: .slice none 0 0 :: .bool false :: .slice none 0 0 :: .slice none 0 0 :: .int .i64 (IntKind.i64.wrap ((D.f 2).n)) :: .slice none 0 0 :: .bool false :: .slice none 0 0 :: .slice none 0 0 :: .int .i64 0 :: .slice ag (((D.f 3).o).length) ah :: .bool false :: .slice none 0 0 :: .slice none 0 0 :: .int .i64 0 :: .slice ab (((D.f 4).o).length) ac :: .bool false :: .slice none 0 0 :: .slice none 0 0 :: .int .i64 (IntKind.i64.wrap ((D.f 5).n)) :: .slice none 0 0 :: .bool false :: .slice none 0 0 :: .slice none 0 0 :: .int .i64 ((D.f 6).n) :: .slice none 0 0 :: .bool false :: .slice none 0 0 :: .slice none 0 0 :: .int .i64 ai :: .slice ao aj.length ap :: .bool ak :: .slice ar al.length au :: .slice av am.length aw :: []),true⟩,⟨aA,0,[.int .i64 0,.slice none 0 0,.bool false,.slice (some ⟨aa,0,none⟩) 8 8,.slice ae D.u.length af],true⟩] [brow ag ah 5 ((D.f 3).o),brow ab ac 5 ((D.f 4).o)]) _ _ from (aK.move (((aU.trans aV).trans aC).trans aD).step immM (((aU.trans aV).trans aC).trans aD).to')).move (Step.refl _ Nil) nilM qbp,trivial⟩ ((show TagsR _ (Imm F w aB [⟨b,o,(.int .i32 ((D.f 0).n) :: .int .i32 ((D.f 1).n) :: .int .i32 ((D.f 2).n) :: qaa ((D.f 3).o.getD 0 0) :: qaa ((D.f 3).o.getD 1 0) :: qaa ((D.f 3).o.getD 2 0) :: qaa ((D.f 3).o.getD 3 0) :: qaa ((D.f 3).o.getD 4 0) :: qaa ((D.f 3).o.getD 5 0) :: qaa ((D.f 3).o.getD 6 0) :: qaa ((D.f 3).o.getD 7 0) :: qaa ((D.f 3).o.getD 8 0) :: qaa ((D.f 3).o.getD 9 0) :: qaa ((D.f 3).o.getD 10 0) :: qaa ((D.f 3).o.getD 11 0) :: qaa ((D.f 3).o.getD 12 0) :: qaa ((D.f 3).o.getD 13 0) :: qaa ((D.f 3).o.getD 14 0) :: qaa ((D.f 3).o.getD 15 0) :: qaa ((D.f 4).o.getD 0 0) :: qaa ((D.f 4).o.getD 1 0) :: qaa ((D.f 4).o.getD 2 0) :: qaa ((D.f 4).o.getD 3 0) :: qaa ((D.f 4).o.getD 4 0) :: qaa ((D.f 4).o.getD 5 0) :: qaa ((D.f 4).o.getD 6 0) :: qaa ((D.f 4).o.getD 7 0) :: qaa ((D.f 4).o.getD 8 0) :: qaa ((D.f 4).o.getD 9 0) :: qaa ((D.f 4).o.getD 10 0) :: qaa ((D.f 4).o.getD 11 0) :: qaa ((D.f 4).o.getD 12 0) :: qaa ((D.f 4).o.getD 13 0) :: qaa ((D.f 4).o.getD 14 0) :: qaa ((D.f 4).o.getD 15 0) :: .int .i32 ((D.f 5).n) :: .int .i64 ((D.f 6).n) :: .bool ((D.f 7).b) :: .map D.m :: []),false⟩,⟨aE,0,[.int .i64 0,.slice none 0 0,.bool false,.slice (some ⟨aa,0,none⟩) 8 8,.slice ae D.u.length af],true⟩,⟨aa,0,(.int .i64 (IntKind.i64.wrap ((D.f 0).n)) :: .slice none 0 0 :: .bool false :: .slice none 0 0 :: .slice none 0 0 :: .int .i64 (IntKind.i64.wrap ((D.f 1).n)) :: .slice none 0 0 :: .bool false :: .slice none 0 0 :: .slice none 0 0 :: .int .i64 (IntKind.i64.wrap ((D.f 2).n)) :: .slice none 0 0 :: .bool false :: .slice none 0 0 :: .slice none 0 0 :: .int .i64 0 :: .slice ag (((D.f 3).o).length) ah :: .bool false :: .slice none 0 0 :: .slice none 0 0 :: .int .i64 0 :: .slice ab (((D.f 4).o).length) ac :: .bool false :: .slice none 0 0 :: .slice none 0 0 :: .int .i64 (IntKind.i64.wrap ((D.f 5).n)) :: .slice none 0 0 :: .bool false :: .slice none 0 0 :: .slice none 0 0 :: .int .i64 ((D.f 6).n) :: .slice none 0 0 :: .bool false :: .slice none 0 0 :: .slice none 0 0 :: .int .i64 ai :: .slice ao aj.length ap :: .bool ak :: .slice ar al.length au :: .slice av am.length aw :: []),true⟩,⟨aA,0,[.int .i64 0,.slice none 0 0,.bool false,.slice (some ⟨aa,0,none⟩) 8 8,.slice ae D.u.length af],true⟩] [brow ag ah 5 ((D.f 3).o),brow ab ac 5 ((D.f 4).o)]) _ _ _ from (aW.move (aC.trans aD).step immM (aC.trans aD).to')).move (Step.refl _ Nil) nilM qbp)
set_option maxHeartbeats 4000000 in
theorem qcc (v:Int) (D:DV) (b o:Nat) (w:World) (F:Nat → Nat → Prop) (hat:AtF w F b o [.string ((D.f 0).s),.slice ((D.f 1).A) ((D.f 1).l) ((D.f 1).c),.map D.m]) (hok:qa7 w F D):Calls Tryz.prog 114 #[.pointer (some ⟨b,o,none⟩)] w (qcN w F (qbe D)):=by
 refine enter (n:=81) Tryz.func114 rfl Tryz.ntmps114 kz fun a hE=>?_
 have hW:WOk w Nil w [⟨b,o,[.string ((D.f 0).s),.slice ((D.f 1).A) ((D.f 1).l) ((D.f 1).c),.map D.m],false⟩] []:=(WOk.start w Nil).start1 hat rfl rfl
 unfold qa7 at hok
 obtain ⟨g1,⟨g2,g2l,g2e⟩,g3,g3l,g3x,_⟩:=hok
 have hE0:=(EnvOk.ptr0 (cs:=[.string ((D.f 0).s),.slice ((D.f 1).A) ((D.f 1).l) ((D.f 1).c),.map D.m]) (r:=false) hE).pk (env':=[(0,.p 0 0)])
 refine qae [0] kz ?_
 refine qaj (qaJ hW hE0 (d:=2) (cs:=[.int .i64 0,.slice none 0 0,.bool false,.slice none 0 0,.slice none 0 0]) kz fun b4 a5 w6 hb7 hz8 hF9 fH fI=>?_)
 refine qag (qac ?_)
 refine qae [0,1,2,3] kz ?_
 refine qaj (qeg (t:=34) (e:=37) (size:=5) (bytes:=88) (d:=5) (j:=2) (.agg #[.int .i64 0,.slice none 0 0,.bool false,.slice none 0 0,.slice none 0 0]) [.int .i64 0,.slice none 0 0,.bool false,.slice none 0 0,.slice none 0 0,.int .i64 0,.slice none 0 0,.bool false,.slice none 0 0,.slice none 0 0] fH fI fun aa jw jx gX gY gZ dw fJ=>?_)
 refine qak [1] [2,3] [(0,.p 0 0),(2,.p 1 0),(6,.v (.agg #[.int .i64 0,.slice none 0 0,.bool false,.slice (some ⟨aa,0,none⟩) 2 2,.slice none 0 0]))] dw fJ fun jy fK=>?_
 refine qaj (qaJ dw fK (d:=3) (cs:=[.int .i64 0,.slice none 0 0,.bool false,.slice none 0 0,.slice none 0 0]) kz fun bC jz jA hC hJ hK fL fM=>?_)
 refine qaj (qan fL fM (oi:=3) (cs:=[.int .i64 0,.slice none 0 0,.bool false,.slice (some ⟨aa,0,none⟩) 2 2,.slice none 0 0]) kz fun jB hY fN fO=>?_)
 refine qag (qac ?_)
 refine qaM 9 kz fN fun jC hZ fP fQ=>?_
 refine qaD [0,1,2,3,4,5] [(0,.p 0 0),(2,.p 1 0),(3,.p 3 0),(8,.v (.slice (some ⟨aa,0,none⟩) 2 2)),(12,.v (.string ((D.f 0).s)))] 4 (qab qaf) (fun _ h=>h.cells) fQ fO fun jD fR=>?_
 refine qat (i:=6) kz (qfo (d:=13) (src:=9) (dst:=22) (e:=5) (s:=((D.f 0).s)) fP fR (by omega) fun aB aC jE jF fS dx fT fU=>?_)
 have fV:=fT F
 have di:=TT.ofW fS dx
 refine ⟨fun _=>di,?_⟩
 refine qaD [7] [(0,.p 0 0),(2,.p 1 0),(3,.p 3 0),(8,.v (.slice (some ⟨aa,0,none⟩) 2 2)),(14,.v (.agg #[.int .i64 0,.slice (some ⟨aB,0,none⟩) ((sb ((D.f 0).s)).length) aC,.bool false,.slice none 0 0,.slice none 0 0]))] 2 (qab qaf) (fun _ h=>h.cells) di fU fun jG fW=>?_
 refine qaE fW (i:=8) (t:=34) (A:=(some ⟨aa,0,none⟩)) (m:=2) (q:=0) (d:=15) kz (e:=37) (size:=5) (bytes:=88) (j:=0) kz (b:=aa) (o:=0) rfl rfl (by decide) kz kz (qab qaf) di fun jH fX=>?_
 have fY:=fX.recast 15 (.v (.pointer (some ⟨aa,0 + 0 * 5,none⟩))) (.p 2 0) rfl rfl (Nat.le_of_ble_eq_true (n:=3) rfl)
 have fZ:=fY.pk (env':=[(0,.p 0 0),(2,.p 1 0),(3,.p 3 0),(8,.v (.slice (some ⟨aa,0,none⟩) 2 2)),(14,.v (.agg #[.int .i64 0,.slice (some ⟨aB,0,none⟩) ((sb ((D.f 0).s)).length) aC,.bool false,.slice none 0 0,.slice none 0 0])),(15,.p 2 0)])
 refine qat (i:=9) kz (qan dx fZ (oi:=2) (cs:=[.int .i64 0,.slice (some ⟨aB,0,none⟩) ((sb ((D.f 0).s)).length) aC,.bool false,.slice none 0 0,.slice none 0 0,.int .i64 0,.slice none 0 0,.bool false,.slice none 0 0,.slice none 0 0]) kz fun jI dy f7 f8=>?_)
 refine ⟨fun h=>absurd rfl h,?_⟩
 refine qaB kz ?_ _
 refine qac ?_
 refine qaM 9 kz f7 fun jJ dz f9 dj=>?_
 refine qaD [0,1,2,3,4,5,6] [(0,.p 0 0),(2,.p 1 0),(3,.p 3 0),(17,.v (.slice (some ⟨aa,0,none⟩) 2 2)),(22,.v (.bool (((D.f 1).A).isNone)))] 3 (qab qaf) (fun _ h=>h.cells) dj f8 fun jK ga=>?_
 refine qat (i:=7) kz (qas ga (t:=34) (A:=(some ⟨aa,0,none⟩)) (m:=2) (q:=1) (d:=23) kz (e:=37) (size:=5) (bytes:=88) (j:=1) kz (b:=aa) (o:=0) rfl rfl (by decide) fun jL gb=>?_)
 have gc:=gb.recast 23 (.v (.pointer (some ⟨aa,0 + 1 * 5,none⟩))) (.p 2 5) rfl rfl (Nat.le_of_ble_eq_true (n:=3) rfl)
 have gd:=gc.pk (env':=[(0,.p 0 0),(2,.p 1 0),(3,.p 3 0),(17,.v (.slice (some ⟨aa,0,none⟩) 2 2)),(22,.v (.bool (((D.f 1).A).isNone))),(23,.p 2 5)])
 refine ⟨fun _=>dj,?_⟩
 refine qaD [8] [(0,.p 0 0),(2,.p 1 0),(3,.p 3 0),(22,.v (.bool (((D.f 1).A).isNone))),(24,.p 2 7)] 1 (qab qaf) (fun _ h=>h.cells) dj gd fun jM ge=>?_
 refine qat (i:=9) kz (qan f9 ge (oi:=2) (cs:=[.int .i64 0,.slice (some ⟨aB,0,none⟩) ((sb ((D.f 0).s)).length) aC,.bool false,.slice none 0 0,.slice none 0 0,.int .i64 0,.slice none 0 0,.bool (((D.f 1).A).isNone),.slice none 0 0,.slice none 0 0]) kz fun jN dA dl gg=>?_)
 refine ⟨fun h=>absurd rfl h,?_⟩
 refine qaB kz ?_ _
 refine qac ?_
 refine wp_seq ?_
 refine qar [(0,.p 0 0),(2,.p 1 0),(3,.p 3 0),(29,.v (.int .i64 (((D.f 1).l:Nat):Int))),(30,.v (.int .i64 0))] dl gg fun jO gh=>?_
 refine wp_block ?_
 have dB:=dl.addNil 37 5
 have dC:=dl.frNil 37 5
 refine wp_loop_ghost (fun n_ a_ w_=>∃ (k1_:Nat) (A1_:Option Addr) (c1_:Nat) (xs1_:List Value) (css1_:List (List Value)),n_ = (D.f 1).l - k1_ ∧ k1_ ≤ (D.f 1).l ∧ (Trees w_ (Imm F w w_ [⟨b,o,[.string ((D.f 0).s),.slice ((D.f 1).A) ((D.f 1).l) ((D.f 1).c),.map D.m],false⟩,⟨b4,0,[.int .i64 0,.slice none 0 0,.bool false,.slice none 0 0,.slice none 0 0],true⟩,⟨aa,0,[.int .i64 0,.slice (some ⟨aB,0,none⟩) ((sb ((D.f 0).s)).length) aC,.bool false,.slice none 0 0,.slice none 0 0,.int .i64 0,.slice none 0 0,.bool (((D.f 1).A).isNone),.slice A1_ k1_ c1_,.slice none 0 0],true⟩,⟨bC,0,[.int .i64 0,.slice none 0 0,.bool false,.slice (some ⟨aa,0,none⟩) 2 2,.slice none 0 0],true⟩] [⟨A1_,c1_,37,5,k1_,xs1_⟩]) xs1_ (((List.range (D.f 1).l).map (fun i=>qaY ((D.f 1).f i))).take k1_) css1_) ∧ LInv dB 81 [⟨b,o,[.string ((D.f 0).s),.slice ((D.f 1).A) ((D.f 1).l) ((D.f 1).c),.map D.m],false⟩,⟨b4,0,[.int .i64 0,.slice none 0 0,.bool false,.slice none 0 0,.slice none 0 0],true⟩,⟨aa,0,[.int .i64 0,.slice (some ⟨aB,0,none⟩) ((sb ((D.f 0).s)).length) aC,.bool false,.slice none 0 0,.slice none 0 0,.int .i64 0,.slice none 0 0,.bool (((D.f 1).A).isNone),.slice A1_ k1_ c1_,.slice none 0 0],true⟩,⟨bC,0,[.int .i64 0,.slice none 0 0,.bool false,.slice (some ⟨aa,0,none⟩) 2 2,.slice none 0 0],true⟩] [⟨A1_,c1_,37,5,k1_,xs1_⟩] [(0,.p 0 0),(2,.p 1 0),(3,.p 3 0),(29,.v (.int .i64 (((D.f 1).l:Nat):Int))),(30,.v (.int .i64 ((k1_:Nat):Int)))] a_ w_) ((D.f 1).l) ⟨0,none,0,[],[],by omega,by omega,Trees.nil _ _,gh.pk,dB,Fr.refl _ _ _⟩ ?_
 rintro jP jQ ia ⟨k1_,A1_,c1_,xs1_,css1_,ib,ic,hT1_,gi,aA,bY⟩
 refine qar [(0,.p 0 0),(2,.p 1 0),(3,.p 3 0),(29,.v (.int .i64 (((D.f 1).l:Nat):Int))),(30,.v (.int .i64 ((k1_:Nat):Int))),(31,.v (.bool (decide (((k1_:Nat):Int) < (((D.f 1).l:Nat):Int)))))] aA gi fun jR dp=>?_
 refine wp_seq ?_
 refine qaz dp (b:=decide (((k1_:Nat):Int) < (((D.f 1).l:Nat):Int))) kz (fun dq=>?_) (fun dq=>?_)
 ·
  have ig:=of_decide_eq_true dq
  refine wp_skip ?_
  refine qac ?_
  refine wp_seq ?_
  refine wp_block ?_
  refine qar [(0,.p 0 0),(2,.p 1 0),(3,.p 3 0),(4,.v (.int .i64 ((k1_:Nat):Int))),(29,.v (.int .i64 (((D.f 1).l:Nat):Int))),(30,.v (.int .i64 ((k1_:Nat):Int)))] aA dp fun jS gj=>?_
  refine qaM 4 kz aA fun jT aI gk ii=>?_
  refine qat (i:=0) kz (qaJ gk gj (d:=33) (cs:=[.bool false]) kz fun jU ij ik gD gE ab bZ cJ=>?_)
  have dD:=TT.ofW ab bZ
  refine ⟨fun _=>dD,?_⟩
  refine qez (i:=1) (j:=2) kz ?_ ?_
  ·
   refine (qan bZ cJ (oi:=4) (cs:=[.bool true]) kz fun il aD cK dE=>?_)
   have dF:=TT.ofW (ab.trans aD) cK
   refine ⟨fun _=>dF,?_⟩
   refine qat (i:=2) kz (qan cK dE (oi:=4) (cs:=[.bool false]) kz fun im bi bD dG=>?_)
   have dH:=TT.ofW ((ab.trans aD).trans bi) bD
   refine ⟨fun _=>dH,?_⟩
   refine qat (i:=3) kz (qbv [0,2,3,4,29,30,34] bD.cells dG (env':=[(0,.p 0 0),(2,.p 1 0),(3,.p 3 0),(4,.v (.int .i64 ((k1_:Nat):Int))),(29,.v (.int .i64 (((D.f 1).l:Nat):Int))),(30,.v (.int .i64 ((k1_:Nat):Int))),(34,.v (.bool false))]) kz fun io cL=>?_)
   have dI:=TT.ofW ((ab.trans aD).trans bi) bD
   refine ⟨fun _=>dI,?_⟩
   refine qaB kz ?_ _
   refine qac ?_
   refine qau cL (b:=false) kz rfl ?_
   refine qcm 18 kz bD fun ip b8 ao bE=>?_
   refine qaD [0,1,2,3,7,8,9,10,11] [(0,.p 0 0),(2,.p 1 0),(3,.p 3 0),(29,.v (.int .i64 (((D.f 1).l:Nat):Int))),(30,.v (.int .i64 ((k1_:Nat):Int))),(54,.v (.slice (some ⟨aa,0,none⟩) 2 2)),(56,.v (.slice (some ⟨aa,0,none⟩) 2 2)),(63,.v (.slice ((D.f 1).A) ((D.f 1).l) ((D.f 1).c))),(64,.v (.int .i64 ((k1_:Nat):Int)))] 10 (qad (qab (qab (qad (qab qaf))))) (fun _ h=>h.cells) bE cL fun iq dJ=>?_
   refine qaE dJ (i:=4) (t:=34) (A:=(some ⟨aa,0,none⟩)) (m:=2) (q:=1) (d:=57) kz (e:=37) (size:=5) (bytes:=88) (j:=1) kz (b:=aa) (o:=0) rfl rfl (by decide) kz kz (qad (qab (qab (qad (qab qaf))))) bE fun ir dK=>?_
   have dL:=dK.recast 57 (.v (.pointer (some ⟨aa,0 + 1 * 5,none⟩))) (.p 2 5) rfl rfl (Nat.le_of_ble_eq_true (n:=3) rfl)
   have dM:=dL.pk (env':=[(0,.p 0 0),(2,.p 1 0),(3,.p 3 0),(29,.v (.int .i64 (((D.f 1).l:Nat):Int))),(30,.v (.int .i64 ((k1_:Nat):Int))),(54,.v (.slice (some ⟨aa,0,none⟩) 2 2)),(56,.v (.slice (some ⟨aa,0,none⟩) 2 2)),(63,.v (.slice ((D.f 1).A) ((D.f 1).l) ((D.f 1).c))),(64,.v (.int .i64 ((k1_:Nat):Int))),(57,.p 2 5)])
   refine qaD [5,6] [(0,.p 0 0),(2,.p 1 0),(3,.p 3 0),(29,.v (.int .i64 (((D.f 1).l:Nat):Int))),(30,.v (.int .i64 ((k1_:Nat):Int))),(54,.v (.slice (some ⟨aa,0,none⟩) 2 2)),(59,.v (.slice A1_ k1_ c1_)),(63,.v (.slice ((D.f 1).A) ((D.f 1).l) ((D.f 1).c))),(64,.v (.int .i64 ((k1_:Nat):Int)))] 7 (qad (qab (qab (qad (qab qaf))))) (fun _ h=>h.cells) bE dM fun iu dN=>?_
   obtain ⟨dO,dP,dQ,gF,dr⟩:=Slots.get g2 (i:=k1_) (by omega)
   refine qaE dN (i:=12) (t:=126) (A:=(D.f 1).A) (m:=((D.f 1).l)) (q:=((k1_:Nat):Int)) (d:=65) kz (e:=195) (size:=39) (bytes:=72) kz dQ rfl (by omega) kz kz (qad (qab (qab (qad (qab qaf))))) bE fun iv dR=>?_
   refine qat (i:=13) kz (qal dR (f:=170) (vs:=[.pointer (some ⟨dO,dP + k1_ * 39,none⟩)]) (d:=66) kz Tryz.call170 (qbs 0 ((D.f 1).f k1_) _ _ _ _ (dr.move ao.step nilM ao.imm) (qaX _ ao.step nilM ao.imm (g2e k1_ (by omega)))) ?_)
   rintro e_ iw ⟨gG,rfl,dS,cd⟩
   have ce:=dS.move (Step.refl _ Nil) nilM (ao.laid (G:=F) cd)
   obtain ⟨bL,bM,bN,bO,bP,bQ,bR,bS,bT,bU,bV,gH,gI,cg,gl,gm,ix,iy⟩:=ce.open_
   rw [cg] at ce
   have gn:=gl.small
   have gp:=gm.small
   rw [cg]
   refine ⟨_,rfl,fun iz dT=>?_⟩
   have cM:=ao.next_nil cd
   have ap:=ao.frN cd
   have dU:=TT.ofW ap cM
   refine ⟨fun _=>dU,?_⟩
   refine qat (i:=14) kz (qbC cM dT (e:=37) (size:=5) (len:=1) (cs:=[.int .i64 bL,.slice bQ bM.length bR,.bool bN,.slice bS bO.length bT,.slice bU bP.length bV]) (d:=67) kz kz fun dV iA iB gJ gK ae bF dW=>?_)
   have dX:=TT.ofW (ap.trans ae) bF
   refine ⟨fun _=>dX,?_⟩
   refine qat (i:=15) kz (qaI bF dW (k:=0) (d:=68) (t:=34) (e:=37) (size:=5) (bytes:=88) (A:=A1_) (As:=(some ⟨dV,0,none⟩)) (m0:=k1_) (c:=c1_) (m:=1) (cs:=1) (xs:=xs1_) (news:=[.int .i64 bL,.slice bQ bM.length bR,.bool bN,.slice bS bO.length bT,.slice bU bP.length bV]) kz kz rfl (qbo (bF.own 1 _ rfl) (qbn kz)) (qbx (bF.own 1 _ rfl)) (by omega) fun bW bX iC iD ar cm dY=>?_)
   have dZ:=TT.ofW ((ap.trans ae).trans ar) cm
   refine ⟨fun _=>dZ,?_⟩
   refine qat (i:=16) kz (qas dY (t:=34) (A:=(some ⟨aa,0,none⟩)) (m:=2) (q:=1) (d:=69) kz (e:=37) (size:=5) (bytes:=88) (j:=1) kz (b:=aa) (o:=0) rfl rfl (by decide) fun iE d5=>?_)
   have d6:=d5.recast 69 (.v (.pointer (some ⟨aa,0 + 1 * 5,none⟩))) (.p 2 5) rfl rfl (Nat.le_of_ble_eq_true (n:=3) rfl)
   have d7:=d6.pk (env':=[(0,.p 0 0),(2,.p 1 0),(3,.p 3 0),(29,.v (.int .i64 (((D.f 1).l:Nat):Int))),(30,.v (.int .i64 ((k1_:Nat):Int))),(54,.v (.slice (some ⟨aa,0,none⟩) 2 2)),(59,.v (.slice A1_ k1_ c1_)),(63,.v (.slice ((D.f 1).A) ((D.f 1).l) ((D.f 1).c))),(64,.v (.int .i64 ((k1_:Nat):Int))),(65,.v (.pointer (some ⟨dO,dP + k1_ * 39,none⟩))),(66,.v (.agg #[.int .i64 bL,.slice bQ bM.length bR,.bool bN,.slice bS bO.length bT,.slice bU bP.length bV])),(67,.v (.slice (some ⟨dV,0,none⟩) 1 1)),(68,.v (.slice bW (k1_ + 1) bX)),(69,.p 2 5)])
   have cN:=TT.ofW ((ap.trans ae).trans ar) cm
   refine ⟨fun _=>cN,?_⟩
   refine qaD [17] [(0,.p 0 0),(2,.p 1 0),(3,.p 3 0),(29,.v (.int .i64 (((D.f 1).l:Nat):Int))),(30,.v (.int .i64 ((k1_:Nat):Int))),(68,.v (.slice bW (k1_ + 1) bX)),(70,.p 2 8)] 1 (qad (qab (qab (qad (qab qaf))))) (fun _ h=>h.cells) cN d7 fun iF d8=>?_
   refine qat (i:=18) kz (qan cm d8 (oi:=2) (cs:=[.int .i64 0,.slice (some ⟨aB,0,none⟩) ((sb ((D.f 0).s)).length) aC,.bool false,.slice none 0 0,.slice none 0 0,.int .i64 0,.slice none 0 0,.bool (((D.f 1).A).isNone),.slice bW (k1_ + 1) bX,.slice none 0 0]) kz fun iG bj cO d9=>?_)
   refine ⟨fun h=>absurd rfl h,?_⟩
   refine qaB kz ?_ _
   refine qaw ?_
   refine qac ?_
   refine qap [0,1] kz ?_
   refine qak [0,1] [] [(0,.p 0 0),(2,.p 1 0),(3,.p 3 0),(29,.v (.int .i64 (((D.f 1).l:Nat):Int))),(30,.v (.int .i64 (IntKind.i64.wrap (((k1_:Nat):Int) + 1))))] cO d9 fun iH ea=>?_
   refine qag (qac ?_)
   obtain ⟨cP,eb,bk⟩:=cO.cutB ea 4 [⟨b,o,[.string ((D.f 0).s),.slice ((D.f 1).A) ((D.f 1).l) ((D.f 1).c),.map D.m],false⟩,⟨b4,0,[.int .i64 0,.slice none 0 0,.bool false,.slice none 0 0,.slice none 0 0],true⟩,⟨aa,0,[.int .i64 0,.slice (some ⟨aB,0,none⟩) ((sb ((D.f 0).s)).length) aC,.bool false,.slice none 0 0,.slice none 0 0,.int .i64 0,.slice none 0 0,.bool (((D.f 1).A).isNone),.slice bW (k1_ + 1) bX,.slice none 0 0],true⟩,⟨bC,0,[.int .i64 0,.slice none 0 0,.bool false,.slice (some ⟨aa,0,none⟩) 2 2,.slice none 0 0],true⟩] [(0,.p 0 0),(2,.p 1 0),(3,.p 3 0),(29,.v (.int .i64 (((D.f 1).l:Nat):Int))),(30,.v (.int .i64 (IntKind.i64.wrap (((k1_:Nat):Int) + 1))))]
   obtain ⟨ec,bn⟩:=eb.cutR 1 [⟨bW,bX,37,5,k1_ + 1,xs1_ ++ [.int .i64 bL,.slice bQ bM.length bR,.bool bN,.slice bS bO.length bT,.slice bU bP.length bV]⟩]
   have ee:IntKind.i64.wrap (((k1_:Nat):Int) + 1) = ((k1_ + 1:Nat):Int):=qaS (by omega)
   rw [ee] at cP
   exact ⟨(D.f 1).l - (k1_ + 1),by omega,k1_ + 1,bW,bX,xs1_ ++ [Value.int .i64 bL,.slice bQ bM.length bR,.bool bN,.slice bS bO.length bT,.slice bU bP.length bV],(css1_ ++ [[Value.int .i64 bL,.slice bQ bM.length bR,.bool bN,.slice bS bO.length bT,.slice bU bP.length bV]]),rfl,by omega,by rw [qcr (by omega)]; exact (hT1_.move ((((((((((aI.trans ab).trans aD).trans bi).trans b8).trans ap).trans ae).trans ar).trans bj).trans bk).trans bn).step immM ((((((((((aI.trans ab).trans aD).trans bi).trans b8).trans ap).trans ae).trans ar).trans bj).trans bk).trans bn).to').snoc (x:=(fun i=>qaY ((D.f 1).f i)) k1_) (ce.move ((((ae.trans ar).trans bj).trans bk).trans bn).step immM ((((ae.trans ar).trans bj).trans bk).trans bn).to'),cP.pk,ec,(((((((((((bY.trans aI).trans ab).trans aD).trans bi).trans b8).trans ap).trans ae).trans ar).trans bj).trans bk).trans bn)⟩
  refine (qan bZ cJ (oi:=4) (cs:=[.bool false]) kz fun iI ac cQ ef=>?_)
  have eg:=TT.ofW (ab.trans ac) cQ
  refine ⟨fun _=>eg,?_⟩
  refine qat (i:=1) kz (qan cQ ef (oi:=4) (cs:=[.bool true]) kz fun iJ af bG eh=>?_)
  have ei:=TT.ofW ((ab.trans ac).trans af) bG
  refine ⟨fun _=>ei,?_⟩
  refine qat (i:=3) kz (qbv [0,2,3,4,29,30,34] bG.cells eh (env':=[(0,.p 0 0),(2,.p 1 0),(3,.p 3 0),(4,.v (.int .i64 ((k1_:Nat):Int))),(29,.v (.int .i64 (((D.f 1).l:Nat):Int))),(30,.v (.int .i64 ((k1_:Nat):Int))),(34,.v (.bool true))]) kz fun iK cR=>?_)
  have ej:=TT.ofW ((ab.trans ac).trans af) bG
  refine ⟨fun _=>ej,?_⟩
  refine qaB kz ?_ _
  refine qac ?_
  refine qbg cR (b:=true) kz rfl ?_
  refine qaM 17 kz bG fun iL aE ag bH=>?_
  refine qaD [0,1,5,6,7,8,9] [(0,.p 0 0),(2,.p 1 0),(3,.p 3 0),(29,.v (.int .i64 (((D.f 1).l:Nat):Int))),(30,.v (.int .i64 ((k1_:Nat):Int))),(36,.v (.slice (some ⟨aa,0,none⟩) 2 2)),(43,.v (.slice ((D.f 1).A) ((D.f 1).l) ((D.f 1).c))),(44,.v (.int .i64 ((k1_:Nat):Int)))] 11 (qab (qad (qab (qab (qad (qab qaf)))))) (fun _ h=>h.cells) bH cR fun iM ek=>?_
  refine qaE ek (i:=2) (t:=34) (A:=(some ⟨aa,0,none⟩)) (m:=2) (q:=1) (d:=37) kz (e:=37) (size:=5) (bytes:=88) (j:=1) kz (b:=aa) (o:=0) rfl rfl (by decide) kz kz (qab (qad (qab (qab (qad (qab qaf)))))) bH fun iN em=>?_
  have eo:=em.recast 37 (.v (.pointer (some ⟨aa,0 + 1 * 5,none⟩))) (.p 2 5) rfl rfl (Nat.le_of_ble_eq_true (n:=3) rfl)
  have ep:=eo.pk (env':=[(0,.p 0 0),(2,.p 1 0),(3,.p 3 0),(29,.v (.int .i64 (((D.f 1).l:Nat):Int))),(30,.v (.int .i64 ((k1_:Nat):Int))),(36,.v (.slice (some ⟨aa,0,none⟩) 2 2)),(43,.v (.slice ((D.f 1).A) ((D.f 1).l) ((D.f 1).c))),(44,.v (.int .i64 ((k1_:Nat):Int))),(37,.p 2 5)])
  refine qaD [3,4,12] [(0,.p 0 0),(2,.p 1 0),(3,.p 3 0),(29,.v (.int .i64 (((D.f 1).l:Nat):Int))),(30,.v (.int .i64 ((k1_:Nat):Int))),(36,.v (.slice (some ⟨aa,0,none⟩) 2 2)),(39,.v (.slice A1_ k1_ c1_)),(43,.v (.slice ((D.f 1).A) ((D.f 1).l) ((D.f 1).c))),(44,.v (.int .i64 ((k1_:Nat):Int))),(47,.v (.int .i64 ((k1_:Nat):Int)))] 7 (qab (qad (qab (qab (qad (qab qaf)))))) (fun _ h=>h.cells) bH ep fun iO eu=>?_
  obtain ⟨cH,cI,ev,gL,cq⟩:=Slots.get g2 (i:=k1_) (by omega)
  refine qaE eu (i:=10) (t:=126) (A:=(D.f 1).A) (m:=((D.f 1).l)) (q:=((k1_:Nat):Int)) (d:=45) kz (e:=195) (size:=39) (bytes:=72) kz ev rfl (by omega) kz kz (qab (qad (qab (qab (qad (qab qaf)))))) bH fun iP cS=>?_
  refine qez (i:=11) (j:=13) kz ?_ ?_
  ·
   refine (qal cS (f:=170) (vs:=[.pointer (some ⟨cH,cI + k1_ * 39,none⟩)]) (d:=46) kz Tryz.call170 (qbs 0 ((D.f 1).f k1_) _ _ _ _ (cq.move ag.step nilM ag.imm) (qaX _ ag.step nilM ag.imm (g2e k1_ (by omega)))) ?_)
   rintro e_ iQ ⟨gM,rfl,ew,cr⟩
   have cu:=ew.move (Step.refl _ Nil) nilM (ag.laid (G:=F) cr)
   obtain ⟨aJ,aK,aL,aM,aN,aO,aP,aQ,aR,aS,aT,gN,gO,cw,gq,gt,iR,iS⟩:=cu.open_
   rw [cw] at cu
   have gv:=gq.small
   have gw:=gt.small
   rw [cw]
   refine ⟨_,rfl,fun iT ey=>?_⟩
   have cT:=ag.next_nil cr
   have au:=ag.frN cr
   have ez:=TT.ofW au cT
   refine ⟨fun _=>ez,?_⟩
   refine qat (i:=13) kz (qbC cT ey (e:=37) (size:=5) (len:=1) (cs:=[.int .i64 0,.slice none 0 0,.bool false,.slice none 0 0,.slice none 0 0]) (d:=48) kz kz fun dt iU iV gP gQ ah bI eB=>?_)
   have eC:=TT.ofW (au.trans ah) bI
   refine ⟨fun _=>eC,?_⟩
   refine qat (i:=14) kz (qaI bI eB (k:=0) (d:=49) (t:=34) (e:=37) (size:=5) (bytes:=88) (A:=A1_) (As:=(some ⟨dt,0,none⟩)) (m0:=k1_) (c:=c1_) (m:=1) (cs:=1) (xs:=xs1_) (news:=[.int .i64 0,.slice none 0 0,.bool false,.slice none 0 0,.slice none 0 0]) kz kz rfl (qbo (bI.own 1 _ rfl) (qbn kz)) (qbx (bI.own 1 _ rfl)) (by omega) fun aj av iW iX aw cz eD=>?_)
   have eE:=TT.ofW ((au.trans ah).trans aw) cz
   refine ⟨fun _=>eE,?_⟩
   refine qat (i:=15) kz (qas eD (t:=34) (A:=(some ⟨aa,0,none⟩)) (m:=2) (q:=1) (d:=50) kz (e:=37) (size:=5) (bytes:=88) (j:=1) kz (b:=aa) (o:=0) rfl rfl (by decide) fun iY eF=>?_)
   have eG:=eF.recast 50 (.v (.pointer (some ⟨aa,0 + 1 * 5,none⟩))) (.p 2 5) rfl rfl (Nat.le_of_ble_eq_true (n:=3) rfl)
   have eH:=eG.pk (env':=[(0,.p 0 0),(2,.p 1 0),(3,.p 3 0),(29,.v (.int .i64 (((D.f 1).l:Nat):Int))),(30,.v (.int .i64 ((k1_:Nat):Int))),(36,.v (.slice (some ⟨aa,0,none⟩) 2 2)),(39,.v (.slice A1_ k1_ c1_)),(43,.v (.slice ((D.f 1).A) ((D.f 1).l) ((D.f 1).c))),(44,.v (.int .i64 ((k1_:Nat):Int))),(47,.v (.int .i64 ((k1_:Nat):Int))),(45,.v (.pointer (some ⟨cH,cI + k1_ * 39,none⟩))),(46,.v (.agg #[.int .i64 aJ,.slice aO aK.length aP,.bool aL,.slice aQ aM.length aR,.slice aS aN.length aT])),(48,.v (.slice (some ⟨dt,0,none⟩) 1 1)),(49,.v (.slice aj (k1_ + 1) av)),(50,.p 2 5)])
   have cU:=TT.ofW ((au.trans ah).trans aw) cz
   refine ⟨fun _=>cU,?_⟩
   refine qaD [16] [(0,.p 0 0),(2,.p 1 0),(3,.p 3 0),(29,.v (.int .i64 (((D.f 1).l:Nat):Int))),(30,.v (.int .i64 ((k1_:Nat):Int))),(46,.v (.agg #[.int .i64 aJ,.slice aO aK.length aP,.bool aL,.slice aQ aM.length aR,.slice aS aN.length aT])),(47,.v (.int .i64 ((k1_:Nat):Int))),(49,.v (.slice aj (k1_ + 1) av)),(51,.p 2 8)] 1 (qab (qad (qab (qab (qad (qab qaf)))))) (fun _ h=>h.cells) cU eH fun iZ eI=>?_
   refine qat (i:=17) kz (qan cz eI (oi:=2) (cs:=[.int .i64 0,.slice (some ⟨aB,0,none⟩) ((sb ((D.f 0).s)).length) aC,.bool false,.slice none 0 0,.slice none 0 0,.int .i64 0,.slice none 0 0,.bool (((D.f 1).A).isNone),.slice aj (k1_ + 1) av,.slice none 0 0]) kz fun gx bo cV eJ=>?_)
   refine ⟨fun h=>absurd rfl h,?_⟩
   refine qaB kz ?_ _
   refine qac ?_
   refine qap [0,1] kz ?_
   have eK:World.ownsRow gx 0 37 5 (.slice aj (k1_ + 1) av) (k1_ + 1) (xs1_ ++ [.int .i64 0,.slice none 0 0,.bool false,.slice none 0 0,.slice none 0 0]):=cV.own 0 _ rfl
   obtain ⟨eL,cW⟩:=qbY eK (by omega)
   refine qaj (qas eJ (t:=34) (A:=aj) (m:=(k1_ + 1)) (q:=((k1_:Nat):Int)) (d:=52) kz (e:=37) (size:=5) (bytes:=88) kz (b:=eL) (o:=0) (j:=k1_) cW (rfl) (by omega) fun i6 eM=>?_)
   refine qaj (qbU cV eM (k:=0) (g:=eL) (o:=k1_ * 5) (c:=av) (m:=(k1_ + 1)) (size:=5) (e:=37) (A:=aj) (xs:=(xs1_ ++ [.int .i64 0,.slice none 0 0,.bool false,.slice none 0 0,.slice none 0 0])) (vs:=[.int .i64 aJ,.slice aO aK.length aP,.bool aL,.slice aQ aM.length aR,.slice aS aN.length aT]) kz rfl cW (by simp only [List.length_cons,List.length_nil]; omega) fun i7 bp eN eO=>?_)
   have eP:(⟨aj,av,37,5,k1_ + 1,qbb (xs1_ ++ [.int .i64 0,.slice none 0 0,.bool false,.slice none 0 0,.slice none 0 0]) (k1_ * 5) [.int .i64 aJ,.slice aO aK.length aP,.bool aL,.slice aQ aM.length aR,.slice aS aN.length aT]⟩:Rw) = ⟨aj,av,37,5,k1_ + 1,xs1_ ++ [.int .i64 aJ,.slice aO aK.length aP,.bool aL,.slice aQ aM.length aR,.slice aS aN.length aT]⟩:=by rw [qc0 (by rw [hT1_.xslen,List.length_take,qci]; omega)]
   obtain ⟨cX,bq⟩:=eN.rowEq 0 [⟨aj,av,37,5,k1_ + 1,xs1_ ++ [.int .i64 aJ,.slice aO aK.length aP,.bool aL,.slice aQ aM.length aR,.slice aS aN.length aT]⟩,⟨some ⟨dt,0,none⟩,1,37,5,1,[.int .i64 0,.slice none 0 0,.bool false,.slice none 0 0,.slice none 0 0]⟩] eP
   refine qag ?_
   refine qaw ?_
   refine qac ?_
   refine qap [0,1] kz ?_
   refine qak [0,1] [] [(0,.p 0 0),(2,.p 1 0),(3,.p 3 0),(29,.v (.int .i64 (((D.f 1).l:Nat):Int))),(30,.v (.int .i64 (IntKind.i64.wrap (((k1_:Nat):Int) + 1))))] cX eO fun ja eQ=>?_
   refine qag (qac ?_)
   obtain ⟨cY,eR,bt⟩:=cX.cutB eQ 4 [⟨b,o,[.string ((D.f 0).s),.slice ((D.f 1).A) ((D.f 1).l) ((D.f 1).c),.map D.m],false⟩,⟨b4,0,[.int .i64 0,.slice none 0 0,.bool false,.slice none 0 0,.slice none 0 0],true⟩,⟨aa,0,[.int .i64 0,.slice (some ⟨aB,0,none⟩) ((sb ((D.f 0).s)).length) aC,.bool false,.slice none 0 0,.slice none 0 0,.int .i64 0,.slice none 0 0,.bool (((D.f 1).A).isNone),.slice aj (k1_ + 1) av,.slice none 0 0],true⟩,⟨bC,0,[.int .i64 0,.slice none 0 0,.bool false,.slice (some ⟨aa,0,none⟩) 2 2,.slice none 0 0],true⟩] [(0,.p 0 0),(2,.p 1 0),(3,.p 3 0),(29,.v (.int .i64 (((D.f 1).l:Nat):Int))),(30,.v (.int .i64 (IntKind.i64.wrap (((k1_:Nat):Int) + 1))))]
   obtain ⟨eS,bu⟩:=eR.cutR 1 [⟨aj,av,37,5,k1_ + 1,xs1_ ++ [.int .i64 aJ,.slice aO aK.length aP,.bool aL,.slice aQ aM.length aR,.slice aS aN.length aT]⟩]
   have eU:IntKind.i64.wrap (((k1_:Nat):Int) + 1) = ((k1_ + 1:Nat):Int):=qaS (by omega)
   rw [eU] at cY
   exact ⟨(D.f 1).l - (k1_ + 1),by omega,k1_ + 1,aj,av,xs1_ ++ [Value.int .i64 aJ,.slice aO aK.length aP,.bool aL,.slice aQ aM.length aR,.slice aS aN.length aT],(css1_ ++ [[Value.int .i64 aJ,.slice aO aK.length aP,.bool aL,.slice aQ aM.length aR,.slice aS aN.length aT]]),rfl,by omega,by rw [qcr (by omega)]; exact (hT1_.move ((((((((((((aI.trans ab).trans ac).trans af).trans aE).trans au).trans ah).trans aw).trans bo).trans bp).trans bq).trans bt).trans bu).step immM ((((((((((((aI.trans ab).trans ac).trans af).trans aE).trans au).trans ah).trans aw).trans bo).trans bp).trans bq).trans bt).trans bu).to').snoc (x:=(fun i=>qaY ((D.f 1).f i)) k1_) (cu.move ((((((ah.trans aw).trans bo).trans bp).trans bq).trans bt).trans bu).step immM ((((((ah.trans aw).trans bo).trans bp).trans bq).trans bt).trans bu).to'),cY.pk,eS,(((((((((((((bY.trans aI).trans ab).trans ac).trans af).trans aE).trans au).trans ah).trans aw).trans bo).trans bp).trans bq).trans bt).trans bu)⟩
  refine (qbC ag cS (e:=37) (size:=5) (len:=1) (cs:=[.int .i64 0,.slice none 0 0,.bool false,.slice none 0 0,.slice none 0 0]) (d:=48) kz kz fun du jb jc gR gS ax ai eV=>?_)
  have eW:=TT.ofW ax ai
  refine ⟨fun _=>eW,?_⟩
  refine qat (i:=11) kz (qal eV (f:=170) (vs:=[.pointer (some ⟨cH,cI + k1_ * 39,none⟩)]) (d:=46) kz Tryz.call170 (qbs 0 ((D.f 1).f k1_) _ _ _ _ (cq.move ai.step nilM ai.imm) (qaX _ ai.step nilM ai.imm (g2e k1_ (by omega)))) ?_)
  rintro e_ jd ⟨gT,rfl,eX,cA⟩
  have cB:=eX.move (Step.refl _ Nil) nilM (ai.laid (G:=F) cA)
  obtain ⟨aU,aV,aW,aX,aY,aZ,ba,bd,bf,bg,bh,gU,gV,cC,gy,gz,je,jf⟩:=cB.open_
  rw [cC] at cB
  have gA:=gy.small
  have gB:=gz.small
  rw [cC]
  refine ⟨_,rfl,fun jg eY=>?_⟩
  have bJ:=ai.next_nil cA
  have aF:=ai.frN cA
  have eZ:=TT.ofW (ax.trans aF) bJ
  refine ⟨fun _=>eZ,?_⟩
  refine qat (i:=14) kz (qaI bJ eY (k:=0) (d:=49) (t:=34) (e:=37) (size:=5) (bytes:=88) (A:=A1_) (As:=(some ⟨du,0,none⟩)) (m0:=k1_) (c:=c1_) (m:=1) (cs:=1) (xs:=xs1_) (news:=[.int .i64 0,.slice none 0 0,.bool false,.slice none 0 0,.slice none 0 0]) kz kz rfl (qbo (bJ.own 1 _ rfl) (qbn kz)) (qbx (bJ.own 1 _ rfl)) (by omega) fun ak ay jh ji az cD e9=>?_)
  have fa:=TT.ofW ((ax.trans aF).trans az) cD
  refine ⟨fun _=>fa,?_⟩
  refine qat (i:=15) kz (qas e9 (t:=34) (A:=(some ⟨aa,0,none⟩)) (m:=2) (q:=1) (d:=50) kz (e:=37) (size:=5) (bytes:=88) (j:=1) kz (b:=aa) (o:=0) rfl rfl (by decide) fun jj fb=>?_)
  have fe:=fb.recast 50 (.v (.pointer (some ⟨aa,0 + 1 * 5,none⟩))) (.p 2 5) rfl rfl (Nat.le_of_ble_eq_true (n:=3) rfl)
  have ff:=fe.pk (env':=[(0,.p 0 0),(2,.p 1 0),(3,.p 3 0),(29,.v (.int .i64 (((D.f 1).l:Nat):Int))),(30,.v (.int .i64 ((k1_:Nat):Int))),(36,.v (.slice (some ⟨aa,0,none⟩) 2 2)),(39,.v (.slice A1_ k1_ c1_)),(43,.v (.slice ((D.f 1).A) ((D.f 1).l) ((D.f 1).c))),(44,.v (.int .i64 ((k1_:Nat):Int))),(47,.v (.int .i64 ((k1_:Nat):Int))),(45,.v (.pointer (some ⟨cH,cI + k1_ * 39,none⟩))),(48,.v (.slice (some ⟨du,0,none⟩) 1 1)),(46,.v (.agg #[.int .i64 aU,.slice aZ aV.length ba,.bool aW,.slice bd aX.length bf,.slice bg aY.length bh])),(49,.v (.slice ak (k1_ + 1) ay)),(50,.p 2 5)])
  have cZ:=TT.ofW ((ax.trans aF).trans az) cD
  refine ⟨fun _=>cZ,?_⟩
  refine qaD [16] [(0,.p 0 0),(2,.p 1 0),(3,.p 3 0),(29,.v (.int .i64 (((D.f 1).l:Nat):Int))),(30,.v (.int .i64 ((k1_:Nat):Int))),(46,.v (.agg #[.int .i64 aU,.slice aZ aV.length ba,.bool aW,.slice bd aX.length bf,.slice bg aY.length bh])),(47,.v (.int .i64 ((k1_:Nat):Int))),(49,.v (.slice ak (k1_ + 1) ay)),(51,.p 2 8)] 1 (qab (qad (qab (qab (qad (qab qaf)))))) (fun _ h=>h.cells) cZ ff fun jk fg=>?_
  refine qat (i:=17) kz (qan cD fg (oi:=2) (cs:=[.int .i64 0,.slice (some ⟨aB,0,none⟩) ((sb ((D.f 0).s)).length) aC,.bool false,.slice none 0 0,.slice none 0 0,.int .i64 0,.slice none 0 0,.bool (((D.f 1).A).isNone),.slice ak (k1_ + 1) ay,.slice none 0 0]) kz fun gC bw c5 fh=>?_)
  refine ⟨fun h=>absurd rfl h,?_⟩
  refine qaB kz ?_ _
  refine qac ?_
  refine qap [0,1] kz ?_
  have fi:World.ownsRow gC 0 37 5 (.slice ak (k1_ + 1) ay) (k1_ + 1) (xs1_ ++ [.int .i64 0,.slice none 0 0,.bool false,.slice none 0 0,.slice none 0 0]):=c5.own 0 _ rfl
  obtain ⟨fj,c6⟩:=qbY fi (by omega)
  refine qaj (qas fh (t:=34) (A:=ak) (m:=(k1_ + 1)) (q:=((k1_:Nat):Int)) (d:=52) kz (e:=37) (size:=5) (bytes:=88) kz (b:=fj) (o:=0) (j:=k1_) c6 (rfl) (by omega) fun jl fk=>?_)
  refine qaj (qbU c5 fk (k:=0) (g:=fj) (o:=k1_ * 5) (c:=ay) (m:=(k1_ + 1)) (size:=5) (e:=37) (A:=ak) (xs:=(xs1_ ++ [.int .i64 0,.slice none 0 0,.bool false,.slice none 0 0,.slice none 0 0])) (vs:=[.int .i64 aU,.slice aZ aV.length ba,.bool aW,.slice bd aX.length bf,.slice bg aY.length bh]) kz rfl c6 (by simp only [List.length_cons,List.length_nil]; omega) fun jm bx fl fm=>?_)
  have fo:(⟨ak,ay,37,5,k1_ + 1,qbb (xs1_ ++ [.int .i64 0,.slice none 0 0,.bool false,.slice none 0 0,.slice none 0 0]) (k1_ * 5) [.int .i64 aU,.slice aZ aV.length ba,.bool aW,.slice bd aX.length bf,.slice bg aY.length bh]⟩:Rw) = ⟨ak,ay,37,5,k1_ + 1,xs1_ ++ [.int .i64 aU,.slice aZ aV.length ba,.bool aW,.slice bd aX.length bf,.slice bg aY.length bh]⟩:=by rw [qc0 (by rw [hT1_.xslen,List.length_take,qci]; omega)]
  obtain ⟨da,bz⟩:=fl.rowEq 0 [⟨ak,ay,37,5,k1_ + 1,xs1_ ++ [.int .i64 aU,.slice aZ aV.length ba,.bool aW,.slice bd aX.length bf,.slice bg aY.length bh]⟩,⟨some ⟨du,0,none⟩,1,37,5,1,[.int .i64 0,.slice none 0 0,.bool false,.slice none 0 0,.slice none 0 0]⟩] fo
  refine qag ?_
  refine qaw ?_
  refine qac ?_
  refine qap [0,1] kz ?_
  refine qak [0,1] [] [(0,.p 0 0),(2,.p 1 0),(3,.p 3 0),(29,.v (.int .i64 (((D.f 1).l:Nat):Int))),(30,.v (.int .i64 (IntKind.i64.wrap (((k1_:Nat):Int) + 1))))] da fm fun jn fq=>?_
  refine qag (qac ?_)
  obtain ⟨db,fr,bA⟩:=da.cutB fq 4 [⟨b,o,[.string ((D.f 0).s),.slice ((D.f 1).A) ((D.f 1).l) ((D.f 1).c),.map D.m],false⟩,⟨b4,0,[.int .i64 0,.slice none 0 0,.bool false,.slice none 0 0,.slice none 0 0],true⟩,⟨aa,0,[.int .i64 0,.slice (some ⟨aB,0,none⟩) ((sb ((D.f 0).s)).length) aC,.bool false,.slice none 0 0,.slice none 0 0,.int .i64 0,.slice none 0 0,.bool (((D.f 1).A).isNone),.slice ak (k1_ + 1) ay,.slice none 0 0],true⟩,⟨bC,0,[.int .i64 0,.slice none 0 0,.bool false,.slice (some ⟨aa,0,none⟩) 2 2,.slice none 0 0],true⟩] [(0,.p 0 0),(2,.p 1 0),(3,.p 3 0),(29,.v (.int .i64 (((D.f 1).l:Nat):Int))),(30,.v (.int .i64 (IntKind.i64.wrap (((k1_:Nat):Int) + 1))))]
  obtain ⟨ft,bB⟩:=fr.cutR 1 [⟨ak,ay,37,5,k1_ + 1,xs1_ ++ [.int .i64 aU,.slice aZ aV.length ba,.bool aW,.slice bd aX.length bf,.slice bg aY.length bh]⟩]
  have fu:IntKind.i64.wrap (((k1_:Nat):Int) + 1) = ((k1_ + 1:Nat):Int):=qaS (by omega)
  rw [fu] at db
  exact ⟨(D.f 1).l - (k1_ + 1),by omega,k1_ + 1,ak,ay,xs1_ ++ [Value.int .i64 aU,.slice aZ aV.length ba,.bool aW,.slice bd aX.length bf,.slice bg aY.length bh],(css1_ ++ [[Value.int .i64 aU,.slice aZ aV.length ba,.bool aW,.slice bd aX.length bf,.slice bg aY.length bh]]),rfl,by omega,by rw [qcr (by omega)]; exact (hT1_.move ((((((((((((aI.trans ab).trans ac).trans af).trans aE).trans ax).trans aF).trans az).trans bw).trans bx).trans bz).trans bA).trans bB).step immM ((((((((((((aI.trans ab).trans ac).trans af).trans aE).trans ax).trans aF).trans az).trans bw).trans bx).trans bz).trans bA).trans bB).to').snoc (x:=(fun i=>qaY ((D.f 1).f i)) k1_) (cB.move (((((az.trans bw).trans bx).trans bz).trans bA).trans bB).step immM (((((az.trans bw).trans bx).trans bz).trans bA).trans bB).to'),db.pk,ft,(((((((((((((bY.trans aI).trans ab).trans ac).trans af).trans aE).trans ax).trans aF).trans az).trans bw).trans bx).trans bz).trans bA).trans bB)⟩
 have gW:=of_decide_eq_false dq
 refine wp_exit ?_
 refine qav ?_
 refine qav ?_
 refine qaO ?_
 refine qac ?_
 refine qae [0,1,2,3,4] kz ?_
 refine qak [0,1,2] [3,4] [(2,.p 1 0),(3,.p 3 0),(74,.p 0 2)] aA dp fun jo fv=>?_
 refine qaj (qes fv (v:=.func (.func 171) #[] #[.pointer (some ⟨bC,0,none⟩)]) (d:=75) kz fun jp fw=>?_)
 refine qaj (qal fw (f:=103) (vs:=[.pointer (some ⟨b,o + 2,none⟩),.func (.func 171) #[] #[.pointer (some ⟨bC,0,none⟩)]]) (d:=76) kz Tryz.call103 (qeX (F:=(Imm F w ia [⟨b,o,[.string ((D.f 0).s),.slice ((D.f 1).A) ((D.f 1).l) ((D.f 1).c),.map D.m],false⟩,⟨b4,0,[.int .i64 0,.slice none 0 0,.bool false,.slice none 0 0,.slice none 0 0],true⟩,⟨aa,0,[.int .i64 0,.slice (some ⟨aB,0,none⟩) ((sb ((D.f 0).s)).length) aC,.bool false,.slice none 0 0,.slice none 0 0,.int .i64 0,.slice none 0 0,.bool (((D.f 1).A).isNone),.slice A1_ k1_ c1_,.slice none 0 0],true⟩,⟨bC,0,[.int .i64 0,.slice none 0 0,.bool false,.slice (some ⟨aa,0,none⟩) 2 2,.slice none 0 0],true⟩] [⟨A1_,c1_,37,5,k1_,xs1_⟩])) Tryz.call171 qdN ((hat.one 2 rfl).move aA.step nilM aA.imm) (g3.move aA.step nilM aA.imm) (Str.of aA 3 rfl) (qjy 3 rfl) g3l) ?_)
 rintro e_ jq ⟨rfl,al,am,dv,fx,fy⟩
 obtain ⟨cE,bK,fz⟩:=aA.wrote 3 [⟨b,o,[.string ((D.f 0).s),.slice ((D.f 1).A) ((D.f 1).l) ((D.f 1).c),.map D.m],false⟩,⟨b4,0,[.int .i64 0,.slice none 0 0,.bool false,.slice none 0 0,.slice none 0 0],true⟩,⟨aa,0,[.int .i64 0,.slice (some ⟨aB,0,none⟩) ((sb ((D.f 0).s)).length) aC,.bool false,.slice none 0 0,.slice none 0 0,.int .i64 0,.slice none 0 0,.bool (((D.f 1).A).isNone),.slice A1_ k1_ c1_,.slice none 0 0],true⟩,⟨bC,0,[.int .i64 0,.slice none 0 0,.bool false,.slice (some ⟨aa,0,none⟩) 2 2,.slice al D.u.length am],true⟩] rfl fy dv
 have dc:=fx.move (Step.refl _ Nil) nilM (fun b_ o_ h_ hb_=>fz (G:=F) b_ o_ (.inr h_) hb_)
 refine ⟨_,rfl,fun jr fA=>?_⟩
 have fB:=(EnvOk.places (tb':=[⟨b,o,[.string ((D.f 0).s),.slice ((D.f 1).A) ((D.f 1).l) ((D.f 1).c),.map D.m],false⟩,⟨b4,0,[.int .i64 0,.slice none 0 0,.bool false,.slice none 0 0,.slice none 0 0],true⟩,⟨aa,0,[.int .i64 0,.slice (some ⟨aB,0,none⟩) ((sb ((D.f 0).s)).length) aC,.bool false,.slice none 0 0,.slice none 0 0,.int .i64 0,.slice none 0 0,.bool (((D.f 1).A).isNone),.slice A1_ k1_ c1_,.slice none 0 0],true⟩,⟨bC,0,[.int .i64 0,.slice none 0 0,.bool false,.slice (some ⟨aa,0,none⟩) 2 2,.slice al D.u.length am],true⟩]) fA (show Pl [⟨b,o,[.string ((D.f 0).s),.slice ((D.f 1).A) ((D.f 1).l) ((D.f 1).c),.map D.m],false⟩,⟨b4,0,[.int .i64 0,.slice none 0 0,.bool false,.slice none 0 0,.slice none 0 0],true⟩,⟨aa,0,[.int .i64 0,.slice (some ⟨aB,0,none⟩) ((sb ((D.f 0).s)).length) aC,.bool false,.slice none 0 0,.slice none 0 0,.int .i64 0,.slice none 0 0,.bool (((D.f 1).A).isNone),.slice A1_ k1_ c1_,.slice none 0 0],true⟩,⟨bC,0,[.int .i64 0,.slice none 0 0,.bool false,.slice (some ⟨aa,0,none⟩) 2 2,.slice none 0 0],true⟩] [⟨b,o,[.string ((D.f 0).s),.slice ((D.f 1).A) ((D.f 1).l) ((D.f 1).c),.map D.m],false⟩,⟨b4,0,[.int .i64 0,.slice none 0 0,.bool false,.slice none 0 0,.slice none 0 0],true⟩,⟨aa,0,[.int .i64 0,.slice (some ⟨aB,0,none⟩) ((sb ((D.f 0).s)).length) aC,.bool false,.slice none 0 0,.slice none 0 0,.int .i64 0,.slice none 0 0,.bool (((D.f 1).A).isNone),.slice A1_ k1_ c1_,.slice none 0 0],true⟩,⟨bC,0,[.int .i64 0,.slice none 0 0,.bool false,.slice (some ⟨aa,0,none⟩) 2 2,.slice al D.u.length am],true⟩] from ⟨rfl,rfl,⟨rfl,rfl,⟨rfl,rfl,⟨rfl,rfl,trivial⟩⟩⟩⟩)).pk (env':=[(76,.v (.tuple #[])),(2,.p 1 0),(3,.p 3 0),(74,.p 0 2),(75,.v (.func (.func 171) #[] #[.pointer (some ⟨bC,0,none⟩)]))])
 refine qag (qac ?_)
 refine qae [0,1,2] kz ?_
 refine qak [0,1] [2] [(2,.p 1 0),(3,.p 3 0),(78,.v (.slice al D.u.length am))] cE fB fun js fC=>?_
 refine qaj (qal fC (f:=105) (vs:=[.slice al D.u.length am]) (d:=79) kz Tryz.call105 (qgY dc g3.sorted) ?_)
 rintro e_ jt ⟨rfl,de⟩
 refine ⟨_,rfl,fun ju fD=>?_⟩
 have dg:=cE.next_nil de
 have aG:=cE.frN de
 refine qag (qac ?_)
 refine qae [0,1] kz ?_
 refine qak [0] [1] [(2,.p 1 0),(80,.v (.agg #[.int .i64 0,.slice none 0 0,.bool false,.slice (some ⟨aa,0,none⟩) 2 2,.slice al D.u.length am]))] dg fD fun jv fE=>?_
 refine qaj (qan dg fE (oi:=1) (cs:=[.int .i64 0,.slice none 0 0,.bool false,.slice (some ⟨aa,0,none⟩) 2 2,.slice al D.u.length am]) kz fun fF aH cG fG=>?_)
 refine qag (qac ?_)
 refine wp_ret ?_
 refine qaP fG cG.cells (v:=.agg #[.int .i64 0,.slice none 0 0,.bool false,.slice (some ⟨aa,0,none⟩) 2 2,.slice al D.u.length am]) kz ?_
 have dh:=(hT1_.move ((bK.trans aG).trans aH).step immM ((bK.trans aG).trans aH).to')
 rw [qho (by omega)] at dh
 exact qfP (u:=D.u) (l:=[.mk 0 (sb (D.f 0).s) false [] [],.mk 0 [] (D.f 1).A.isNone ((List.range (D.f 1).l).map fun i=>qaY ((D.f 1).f i)) []]) (css:=[[.int .i64 0,.slice (some ⟨aB,0,none⟩) ((sb ((D.f 0).s)).length) aC,.bool false,.slice none 0 0,.slice none 0 0],[.int .i64 0,.slice none 0 0,.bool (((D.f 1).A).isNone),.slice A1_ k1_ c1_,.slice none 0 0]]) cG 2 rfl ⟨(show TreeR _ (Imm F w fF [⟨b,o,[.string ((D.f 0).s),.slice ((D.f 1).A) ((D.f 1).l) ((D.f 1).c),.map D.m],false⟩,⟨b4,0,[.int .i64 0,.slice none 0 0,.bool false,.slice (some ⟨aa,0,none⟩) 2 2,.slice al D.u.length am],true⟩,⟨aa,0,[.int .i64 0,.slice (some ⟨aB,0,none⟩) ((sb ((D.f 0).s)).length) aC,.bool false,.slice none 0 0,.slice none 0 0,.int .i64 0,.slice none 0 0,.bool (((D.f 1).A).isNone),.slice A1_ k1_ c1_,.slice none 0 0],true⟩,⟨bC,0,[.int .i64 0,.slice none 0 0,.bool false,.slice (some ⟨aa,0,none⟩) 2 2,.slice al D.u.length am],true⟩] [⟨A1_,c1_,37,5,k1_,xs1_⟩]) _ _ from (TreeR.mk (n:=0) (b:=false) (s:=(sb ((D.f 0).s))) (l:=[]) (u:=[]) (fun _=>[]) (fV.move (((((((dy.trans dz).trans dA).trans dC).trans bY).trans bK).trans aG).trans aH).step immM (((((((dy.trans dz).trans dA).trans dC).trans bY).trans bK).trans aG).trans aH).to') (Slots.nil _ _ _ _) (fun i_ x_ h_=>by simp at h_) (TagsR.nil _ _))).move (Step.refl _ Nil) nilM qbp,qgu cG (k:=0) rfl dh (by rw [qci]; omega) (by rw [qci]; omega),trivial⟩ ((show TagsR _ (Imm F w fF [⟨b,o,[.string ((D.f 0).s),.slice ((D.f 1).A) ((D.f 1).l) ((D.f 1).c),.map D.m],false⟩,⟨b4,0,[.int .i64 0,.slice none 0 0,.bool false,.slice (some ⟨aa,0,none⟩) 2 2,.slice al D.u.length am],true⟩,⟨aa,0,[.int .i64 0,.slice (some ⟨aB,0,none⟩) ((sb ((D.f 0).s)).length) aC,.bool false,.slice none 0 0,.slice none 0 0,.int .i64 0,.slice none 0 0,.bool (((D.f 1).A).isNone),.slice A1_ k1_ c1_,.slice none 0 0],true⟩,⟨bC,0,[.int .i64 0,.slice none 0 0,.bool false,.slice (some ⟨aa,0,none⟩) 2 2,.slice al D.u.length am],true⟩] [⟨A1_,c1_,37,5,k1_,xs1_⟩]) _ _ _ from (dc.move (aG.trans aH).step immM (aG.trans aH).to')).move (Step.refl _ Nil) nilM qbp)
set_option maxHeartbeats 4000000 in
theorem qfQ (v:Int) (D:DV) (b o:Nat) (w:World) (F:Nat → Nat → Prop) (hat:AtF w F b o [.int .i16 v,.pointer ((D.f 0).A),.int .i32 ((D.f 1).n),.slice ((D.f 2).A) ((D.f 2).l) ((D.f 2).c),.map D.m]) (hok:qbm w F D):Calls Tryz.prog 62 #[.pointer (some ⟨b,o,none⟩)] w (qcN w F (qb0 D)):=by
 refine enter (n:=89) Tryz.func62 rfl Tryz.ntmps62 kz fun a hE=>?_
 have hW:WOk w Nil w [⟨b,o,[.int .i16 v,.pointer ((D.f 0).A),.int .i32 ((D.f 1).n),.slice ((D.f 2).A) ((D.f 2).l) ((D.f 2).c),.map D.m],false⟩] []:=(WOk.start w Nil).start1 hat rfl rfl
 unfold qbm at hok
 obtain ⟨⟨g1,g1l⟩,g2,⟨g3,g3l,g3e⟩,g4,g4l,g4x,_⟩:=hok
 have hE0:=(EnvOk.ptr0 (cs:=[.int .i16 v,.pointer ((D.f 0).A),.int .i32 ((D.f 1).n),.slice ((D.f 2).A) ((D.f 2).l) ((D.f 2).c),.map D.m]) (r:=false) hE).pk (env':=[(0,.p 0 0)])
 refine qae [0] kz ?_
 refine qaj (qaJ hW hE0 (d:=2) (cs:=[.int .i64 0,.slice none 0 0,.bool false,.slice none 0 0,.slice none 0 0]) kz fun b5 a6 w7 hb8 hz9 iA gd ge=>?_)
 refine qag (qac ?_)
 refine qae [0,1,2,3] kz ?_
 refine qaj (qeg (t:=34) (e:=37) (size:=5) (bytes:=88) (d:=5) (j:=3) (.agg #[.int .i64 0,.slice none 0 0,.bool false,.slice none 0 0,.slice none 0 0]) [.int .i64 0,.slice none 0 0,.bool false,.slice none 0 0,.slice none 0 0,.int .i64 0,.slice none 0 0,.bool false,.slice none 0 0,.slice none 0 0,.int .i64 0,.slice none 0 0,.bool false,.slice none 0 0,.slice none 0 0] gd ge fun aa j8 j9 iB iC iD dM gg=>?_)
 refine qak [1] [2,3] [(0,.p 0 0),(2,.p 1 0),(6,.v (.agg #[.int .i64 0,.slice none 0 0,.bool false,.slice (some ⟨aa,0,none⟩) 3 3,.slice none 0 0]))] dM gg fun ka gh=>?_
 refine qaj (qaJ dM gh (d:=3) (cs:=[.int .i64 0,.slice none 0 0,.bool false,.slice none 0 0,.slice none 0 0]) kz fun bw kd ke iE iF iG gi gj=>?_)
 refine qaj (qan gi gj (oi:=3) (cs:=[.int .i64 0,.slice none 0 0,.bool false,.slice (some ⟨aa,0,none⟩) 3 3,.slice none 0 0]) kz fun kf iH gk gl=>?_)
 refine qag (qac ?_)
 refine qaM 8 kz gk fun iI iJ cw gm=>?_
 refine qaD [0,1,2,3,4,5] [(0,.p 0 0),(2,.p 1 0),(3,.p 3 0),(8,.v (.slice (some ⟨aa,0,none⟩) 3 3)),(12,.v (.pointer ((D.f 0).A)))] 3 (qab qaf) (fun _ h=>h.cells) gm gl fun kg gn=>?_
 refine qat (i:=6) kz (qal gn (f:=101) (vs:=[.pointer ((D.f 0).A)]) (d:=13) kz Tryz.call101 (qlo _ (D.f 0).s _ (Imm F w iI [⟨b,o,[.int .i16 v,.pointer ((D.f 0).A),.int .i32 ((D.f 1).n),.slice ((D.f 2).A) ((D.f 2).l) ((D.f 2).c),.map D.m],false⟩,⟨b5,0,[.int .i64 0,.slice none 0 0,.bool false,.slice none 0 0,.slice none 0 0],true⟩,⟨aa,0,[.int .i64 0,.slice none 0 0,.bool false,.slice none 0 0,.slice none 0 0,.int .i64 0,.slice none 0 0,.bool false,.slice none 0 0,.slice none 0 0,.int .i64 0,.slice none 0 0,.bool false,.slice none 0 0,.slice none 0 0],true⟩,⟨bw,0,[.int .i64 0,.slice none 0 0,.bool false,.slice (some ⟨aa,0,none⟩) 3 3,.slice none 0 0],true⟩] []) (fun ad h_=>by obtain ⟨b',o',g1,g2⟩:=g1 ad h_; exact ⟨b',o',g1,g2.move cw.step nilM cw.imm⟩) g1l) ?_)
 rintro e_ kh ⟨iK,rfl,gp,dE⟩
 have dF:=gp.move (Step.refl _ Nil) nilM (cw.laid (G:=F) dE)
 obtain ⟨aC,aD,aE,aF,aG,aH,aI,aJ,aK,aL,aM,iL,iM,cW,iN,iO,ki,kj⟩:=dF.open_
 rw [cW] at dF
 have gY:=iN.small
 have gZ:=iO.small
 rw [cW]
 refine ⟨_,rfl,fun km gq=>?_⟩
 have dN:=cw.next_nil dE
 have gt:=cw.frN dE
 have dO:=TT.ofW gt dN
 refine ⟨fun _=>dO,?_⟩
 refine qaE gq (i:=7) (t:=34) (A:=(some ⟨aa,0,none⟩)) (m:=3) (q:=0) (d:=14) kz (e:=37) (size:=5) (bytes:=88) (j:=0) kz (b:=aa) (o:=0) rfl rfl (by decide) kz kz (qab qaf) dO fun ko gv=>?_
 have gw:=gv.recast 14 (.v (.pointer (some ⟨aa,0 + 0 * 5,none⟩))) (.p 2 0) rfl rfl (Nat.le_of_ble_eq_true (n:=3) rfl)
 have gx:=gw.pk (env':=[(0,.p 0 0),(2,.p 1 0),(3,.p 3 0),(8,.v (.slice (some ⟨aa,0,none⟩) 3 3)),(12,.v (.pointer ((D.f 0).A))),(13,.v (.agg #[.int .i64 aC,.slice aH aD.length aI,.bool aE,.slice aJ aF.length aK,.slice aL aG.length aM])),(14,.p 2 0)])
 refine qat (i:=8) kz (qan dN gx (oi:=2) (cs:=[.int .i64 aC,.slice aH aD.length aI,.bool aE,.slice aJ aF.length aK,.slice aL aG.length aM,.int .i64 0,.slice none 0 0,.bool false,.slice none 0 0,.slice none 0 0,.int .i64 0,.slice none 0 0,.bool false,.slice none 0 0,.slice none 0 0]) kz fun kp dP gy gz=>?_)
 refine ⟨fun h=>absurd rfl h,?_⟩
 refine qaB kz ?_ _
 refine qac ?_
 refine qaM 9 kz gy fun kq dQ gA dR=>?_
 refine qaD [0,1,2,3,4,5,6,7] [(0,.p 0 0),(2,.p 1 0),(3,.p 3 0),(16,.v (.slice (some ⟨aa,0,none⟩) 3 3)),(22,.v (.agg #[.int .i64 (IntKind.i64.wrap ((D.f 1).n)),.slice none 0 0,.bool false,.slice none 0 0,.slice none 0 0]))] 2 (qab qaf) (fun _ h=>h.cells) dR gz fun ku gB=>?_
 refine qaE gB (i:=8) (t:=34) (A:=(some ⟨aa,0,none⟩)) (m:=3) (q:=1) (d:=23) kz (e:=37) (size:=5) (bytes:=88) (j:=1) kz (b:=aa) (o:=0) rfl rfl (by decide) kz kz (qab qaf) dR fun kv gC=>?_
 have gD:=gC.recast 23 (.v (.pointer (some ⟨aa,0 + 1 * 5,none⟩))) (.p 2 5) rfl rfl (Nat.le_of_ble_eq_true (n:=3) rfl)
 have gE:=gD.pk (env':=[(0,.p 0 0),(2,.p 1 0),(3,.p 3 0),(16,.v (.slice (some ⟨aa,0,none⟩) 3 3)),(22,.v (.agg #[.int .i64 (IntKind.i64.wrap ((D.f 1).n)),.slice none 0 0,.bool false,.slice none 0 0,.slice none 0 0])),(23,.p 2 5)])
 refine qat (i:=9) kz (qan gA gE (oi:=2) (cs:=[.int .i64 aC,.slice aH aD.length aI,.bool aE,.slice aJ aF.length aK,.slice aL aG.length aM,.int .i64 (IntKind.i64.wrap ((D.f 1).n)),.slice none 0 0,.bool false,.slice none 0 0,.slice none 0 0,.int .i64 0,.slice none 0 0,.bool false,.slice none 0 0,.slice none 0 0]) kz fun kw dS gF gG=>?_)
 refine ⟨fun h=>absurd rfl h,?_⟩
 refine qaB kz ?_ _
 refine qac ?_
 refine qaM 9 kz gF fun kx dT gH dG=>?_
 refine qaD [0,1,2,3,4,5,6] [(0,.p 0 0),(2,.p 1 0),(3,.p 3 0),(25,.v (.slice (some ⟨aa,0,none⟩) 3 3)),(30,.v (.bool (((D.f 2).A).isNone)))] 3 (qab qaf) (fun _ h=>h.cells) dG gG fun ky gI=>?_
 refine qat (i:=7) kz (qas gI (t:=34) (A:=(some ⟨aa,0,none⟩)) (m:=3) (q:=2) (d:=31) kz (e:=37) (size:=5) (bytes:=88) (j:=2) kz (b:=aa) (o:=0) rfl rfl (by decide) fun kA dU=>?_)
 have dV:=dU.recast 31 (.v (.pointer (some ⟨aa,0 + 2 * 5,none⟩))) (.p 2 10) rfl rfl (Nat.le_of_ble_eq_true (n:=3) rfl)
 have dW:=dV.pk (env':=[(0,.p 0 0),(2,.p 1 0),(3,.p 3 0),(25,.v (.slice (some ⟨aa,0,none⟩) 3 3)),(30,.v (.bool (((D.f 2).A).isNone))),(31,.p 2 10)])
 refine ⟨fun _=>dG,?_⟩
 refine qaD [8] [(0,.p 0 0),(2,.p 1 0),(3,.p 3 0),(30,.v (.bool (((D.f 2).A).isNone))),(32,.p 2 12)] 1 (qab qaf) (fun _ h=>h.cells) dG dW fun iP dX=>?_
 refine qat (i:=9) kz (qan gH dX (oi:=2) (cs:=[.int .i64 aC,.slice aH aD.length aI,.bool aE,.slice aJ aF.length aK,.slice aL aG.length aM,.int .i64 (IntKind.i64.wrap ((D.f 1).n)),.slice none 0 0,.bool false,.slice none 0 0,.slice none 0 0,.int .i64 0,.slice none 0 0,.bool (((D.f 2).A).isNone),.slice none 0 0,.slice none 0 0]) kz fun iQ cX cz dY=>?_)
 refine ⟨fun h=>absurd rfl h,?_⟩
 refine qaB kz ?_ _
 refine qac ?_
 refine wp_seq ?_
 refine qar [(0,.p 0 0),(2,.p 1 0),(3,.p 3 0),(37,.v (.int .i64 (((D.f 2).l:Nat):Int))),(38,.v (.int .i64 0))] cz dY fun iR dZ=>?_
 refine wp_block ?_
 have cY:=cz.addNil 37 5
 have cZ:=cz.frNil 37 5
 refine wp_loop_ghost (fun n_ a_ w_=>∃ (k2_:Nat) (A2_:Option Addr) (c2_:Nat) (xs2_:List Value) (css2_:List (List Value)),n_ = (D.f 2).l - k2_ ∧ k2_ ≤ (D.f 2).l ∧ (Trees w_ (Imm F w w_ [⟨b,o,[.int .i16 v,.pointer ((D.f 0).A),.int .i32 ((D.f 1).n),.slice ((D.f 2).A) ((D.f 2).l) ((D.f 2).c),.map D.m],false⟩,⟨b5,0,[.int .i64 0,.slice none 0 0,.bool false,.slice none 0 0,.slice none 0 0],true⟩,⟨aa,0,[.int .i64 aC,.slice aH aD.length aI,.bool aE,.slice aJ aF.length aK,.slice aL aG.length aM,.int .i64 (IntKind.i64.wrap ((D.f 1).n)),.slice none 0 0,.bool false,.slice none 0 0,.slice none 0 0,.int .i64 0,.slice none 0 0,.bool (((D.f 2).A).isNone),.slice A2_ k2_ c2_,.slice none 0 0],true⟩,⟨bw,0,[.int .i64 0,.slice none 0 0,.bool false,.slice (some ⟨aa,0,none⟩) 3 3,.slice none 0 0],true⟩] [⟨A2_,c2_,37,5,k2_,xs2_⟩]) xs2_ (((List.range (D.f 2).l).map (fun i=>qbe ((D.f 2).f i))).take k2_) css2_) ∧ LInv cY 89 [⟨b,o,[.int .i16 v,.pointer ((D.f 0).A),.int .i32 ((D.f 1).n),.slice ((D.f 2).A) ((D.f 2).l) ((D.f 2).c),.map D.m],false⟩,⟨b5,0,[.int .i64 0,.slice none 0 0,.bool false,.slice none 0 0,.slice none 0 0],true⟩,⟨aa,0,[.int .i64 aC,.slice aH aD.length aI,.bool aE,.slice aJ aF.length aK,.slice aL aG.length aM,.int .i64 (IntKind.i64.wrap ((D.f 1).n)),.slice none 0 0,.bool false,.slice none 0 0,.slice none 0 0,.int .i64 0,.slice none 0 0,.bool (((D.f 2).A).isNone),.slice A2_ k2_ c2_,.slice none 0 0],true⟩,⟨bw,0,[.int .i64 0,.slice none 0 0,.bool false,.slice (some ⟨aa,0,none⟩) 3 3,.slice none 0 0],true⟩] [⟨A2_,c2_,37,5,k2_,xs2_⟩] [(0,.p 0 0),(2,.p 1 0),(3,.p 3 0),(37,.v (.int .i64 (((D.f 2).l:Nat):Int))),(38,.v (.int .i64 ((k2_:Nat):Int)))] a_ w_) ((D.f 2).l) ⟨0,none,0,[],[],by omega,by omega,Trees.nil _ _,dZ.pk,cY,Fr.refl _ _ _⟩ ?_
 rintro iS iT gJ ⟨k2_,A2_,c2_,xs2_,css2_,hC,hJ,hT2_,d5,ac,bx⟩
 refine qar [(0,.p 0 0),(2,.p 1 0),(3,.p 3 0),(37,.v (.int .i64 (((D.f 2).l:Nat):Int))),(38,.v (.int .i64 ((k2_:Nat):Int))),(39,.v (.bool (decide (((k2_:Nat):Int) < (((D.f 2).l:Nat):Int)))))] ac d5 fun iU cA=>?_
 refine wp_seq ?_
 refine qaz cA (b:=decide (((k2_:Nat):Int) < (((D.f 2).l:Nat):Int))) kz (fun cB=>?_) (fun cB=>?_)
 ·
  have hK:=of_decide_eq_true cB
  refine wp_skip ?_
  refine qac ?_
  refine wp_seq ?_
  refine wp_block ?_
  refine qar [(0,.p 0 0),(2,.p 1 0),(3,.p 3 0),(4,.v (.int .i64 ((k2_:Nat):Int))),(37,.v (.int .i64 (((D.f 2).l:Nat):Int))),(38,.v (.int .i64 ((k2_:Nat):Int)))] ac cA fun iV d6=>?_
  refine qaM 4 kz ac fun iW ae d7 hY=>?_
  refine qat (i:=0) kz (qaJ d7 d6 (d:=41) (cs:=[.bool false]) kz fun iX iY iZ hZ ia ab cC c5=>?_)
  have d8:=TT.ofW ab cC
  refine ⟨fun _=>d8,?_⟩
  refine qez (i:=1) (j:=2) kz ?_ ?_
  ·
   refine (qan cC c5 (oi:=4) (cs:=[.bool true]) kz fun i6 aN c6 d9=>?_)
   have ea:=TT.ofW (ab.trans aN) c6
   refine ⟨fun _=>ea,?_⟩
   refine qat (i:=2) kz (qan c6 d9 (oi:=4) (cs:=[.bool false]) kz fun i7 bz bN eb=>?_)
   have ec:=TT.ofW ((ab.trans aN).trans bz) bN
   refine ⟨fun _=>ec,?_⟩
   refine qat (i:=3) kz (qbv [0,2,3,4,37,38,42] bN.cells eb (env':=[(0,.p 0 0),(2,.p 1 0),(3,.p 3 0),(4,.v (.int .i64 ((k2_:Nat):Int))),(37,.v (.int .i64 (((D.f 2).l:Nat):Int))),(38,.v (.int .i64 ((k2_:Nat):Int))),(42,.v (.bool false))]) kz fun ja da=>?_)
   have ee:=TT.ofW ((ab.trans aN).trans bz) bN
   refine ⟨fun _=>ee,?_⟩
   refine qaB kz ?_ _
   refine qac ?_
   refine qau da (b:=false) kz rfl ?_
   refine qcm 18 kz bN fun jb cD ar bO=>?_
   refine qaD [0,1,2,3,7,8,9,10,11] [(0,.p 0 0),(2,.p 1 0),(3,.p 3 0),(37,.v (.int .i64 (((D.f 2).l:Nat):Int))),(38,.v (.int .i64 ((k2_:Nat):Int))),(62,.v (.slice (some ⟨aa,0,none⟩) 3 3)),(64,.v (.slice (some ⟨aa,0,none⟩) 3 3)),(71,.v (.slice ((D.f 2).A) ((D.f 2).l) ((D.f 2).c))),(72,.v (.int .i64 ((k2_:Nat):Int)))] 10 (qad (qab (qab (qad (qab qaf))))) (fun _ h=>h.cells) bO da fun jc ef=>?_
   refine qaE ef (i:=4) (t:=34) (A:=(some ⟨aa,0,none⟩)) (m:=3) (q:=2) (d:=65) kz (e:=37) (size:=5) (bytes:=88) (j:=2) kz (b:=aa) (o:=0) rfl rfl (by decide) kz kz (qad (qab (qab (qad (qab qaf))))) bO fun jd eg=>?_
   have eh:=eg.recast 65 (.v (.pointer (some ⟨aa,0 + 2 * 5,none⟩))) (.p 2 10) rfl rfl (Nat.le_of_ble_eq_true (n:=3) rfl)
   have ei:=eh.pk (env':=[(0,.p 0 0),(2,.p 1 0),(3,.p 3 0),(37,.v (.int .i64 (((D.f 2).l:Nat):Int))),(38,.v (.int .i64 ((k2_:Nat):Int))),(62,.v (.slice (some ⟨aa,0,none⟩) 3 3)),(64,.v (.slice (some ⟨aa,0,none⟩) 3 3)),(71,.v (.slice ((D.f 2).A) ((D.f 2).l) ((D.f 2).c))),(72,.v (.int .i64 ((k2_:Nat):Int))),(65,.p 2 10)])
   refine qaD [5,6] [(0,.p 0 0),(2,.p 1 0),(3,.p 3 0),(37,.v (.int .i64 (((D.f 2).l:Nat):Int))),(38,.v (.int .i64 ((k2_:Nat):Int))),(62,.v (.slice (some ⟨aa,0,none⟩) 3 3)),(67,.v (.slice A2_ k2_ c2_)),(71,.v (.slice ((D.f 2).A) ((D.f 2).l) ((D.f 2).c))),(72,.v (.int .i64 ((k2_:Nat):Int)))] 7 (qad (qab (qab (qad (qab qaf))))) (fun _ h=>h.cells) bO ei fun je ej=>?_
   obtain ⟨ek,em,eo,ib,dH⟩:=Slots.get g3 (i:=k2_) (by omega)
   refine qaE ej (i:=12) (t:=121) (A:=(D.f 2).A) (m:=((D.f 2).l)) (q:=((k2_:Nat):Int)) (d:=73) kz (e:=128) (size:=3) (bytes:=48) kz eo rfl (by omega) kz kz (qad (qab (qab (qad (qab qaf))))) bO fun jf ep=>?_
   refine qat (i:=13) kz (qal ep (f:=114) (vs:=[.pointer (some ⟨ek,em + k2_ * 3,none⟩)]) (d:=74) kz Tryz.call114 (qcc 0 ((D.f 2).f k2_) _ _ _ _ (dH.move ar.step nilM ar.imm) (qbc _ ar.step nilM ar.imm (g3e k2_ (by omega)))) ?_)
   rintro e_ jg ⟨ic,rfl,eu,cE⟩
   have cG:=eu.move (Step.refl _ Nil) nilM (ar.laid (G:=F) cE)
   obtain ⟨bV,bW,bX,bY,bZ,b8,cd,ce,cg,cm,cq,ig,ii,cH,gK,gL,jh,ji⟩:=cG.open_
   rw [cH] at cG
   have gM:=gK.small
   have gN:=gL.small
   rw [cH]
   refine ⟨_,rfl,fun jj ev=>?_⟩
   have db:=ar.next_nil cE
   have au:=ar.frN cE
   have ew:=TT.ofW au db
   refine ⟨fun _=>ew,?_⟩
   refine qat (i:=14) kz (qbC db ev (e:=37) (size:=5) (len:=1) (cs:=[.int .i64 bV,.slice b8 bW.length cd,.bool bX,.slice ce bY.length cg,.slice cm bZ.length cq]) (d:=75) kz kz fun ey jk jl ij ik ai bP ez=>?_)
   have eB:=TT.ofW (au.trans ai) bP
   refine ⟨fun _=>eB,?_⟩
   refine qat (i:=15) kz (qaI bP ez (k:=0) (d:=76) (t:=34) (e:=37) (size:=5) (bytes:=88) (A:=A2_) (As:=(some ⟨ey,0,none⟩)) (m0:=k2_) (c:=c2_) (m:=1) (cs:=1) (xs:=xs2_) (news:=[.int .i64 bV,.slice b8 bW.length cd,.bool bX,.slice ce bY.length cg,.slice cm bZ.length cq]) kz kz rfl (qbo (bP.own 1 _ rfl) (qbn kz)) (qbx (bP.own 1 _ rfl)) (by omega) fun cr cu jm jn av cI eC=>?_)
   have eD:=TT.ofW ((au.trans ai).trans av) cI
   refine ⟨fun _=>eD,?_⟩
   refine qat (i:=16) kz (qas eC (t:=34) (A:=(some ⟨aa,0,none⟩)) (m:=3) (q:=2) (d:=77) kz (e:=37) (size:=5) (bytes:=88) (j:=2) kz (b:=aa) (o:=0) rfl rfl (by decide) fun jo eE=>?_)
   have eF:=eE.recast 77 (.v (.pointer (some ⟨aa,0 + 2 * 5,none⟩))) (.p 2 10) rfl rfl (Nat.le_of_ble_eq_true (n:=3) rfl)
   have eG:=eF.pk (env':=[(0,.p 0 0),(2,.p 1 0),(3,.p 3 0),(37,.v (.int .i64 (((D.f 2).l:Nat):Int))),(38,.v (.int .i64 ((k2_:Nat):Int))),(62,.v (.slice (some ⟨aa,0,none⟩) 3 3)),(67,.v (.slice A2_ k2_ c2_)),(71,.v (.slice ((D.f 2).A) ((D.f 2).l) ((D.f 2).c))),(72,.v (.int .i64 ((k2_:Nat):Int))),(73,.v (.pointer (some ⟨ek,em + k2_ * 3,none⟩))),(74,.v (.agg #[.int .i64 bV,.slice b8 bW.length cd,.bool bX,.slice ce bY.length cg,.slice cm bZ.length cq])),(75,.v (.slice (some ⟨ey,0,none⟩) 1 1)),(76,.v (.slice cr (k2_ + 1) cu)),(77,.p 2 10)])
   have dc:=TT.ofW ((au.trans ai).trans av) cI
   refine ⟨fun _=>dc,?_⟩
   refine qaD [17] [(0,.p 0 0),(2,.p 1 0),(3,.p 3 0),(37,.v (.int .i64 (((D.f 2).l:Nat):Int))),(38,.v (.int .i64 ((k2_:Nat):Int))),(76,.v (.slice cr (k2_ + 1) cu)),(78,.p 2 13)] 1 (qad (qab (qab (qad (qab qaf))))) (fun _ h=>h.cells) dc eG fun jp eH=>?_
   refine qat (i:=18) kz (qan cI eH (oi:=2) (cs:=[.int .i64 aC,.slice aH aD.length aI,.bool aE,.slice aJ aF.length aK,.slice aL aG.length aM,.int .i64 (IntKind.i64.wrap ((D.f 1).n)),.slice none 0 0,.bool false,.slice none 0 0,.slice none 0 0,.int .i64 0,.slice none 0 0,.bool (((D.f 2).A).isNone),.slice cr (k2_ + 1) cu,.slice none 0 0]) kz fun jq bA de eI=>?_)
   refine ⟨fun h=>absurd rfl h,?_⟩
   refine qaB kz ?_ _
   refine qaw ?_
   refine qac ?_
   refine qap [0,1] kz ?_
   refine qak [0,1] [] [(0,.p 0 0),(2,.p 1 0),(3,.p 3 0),(37,.v (.int .i64 (((D.f 2).l:Nat):Int))),(38,.v (.int .i64 (IntKind.i64.wrap (((k2_:Nat):Int) + 1))))] de eI fun jr eJ=>?_
   refine qag (qac ?_)
   obtain ⟨dg,eK,bB⟩:=de.cutB eJ 4 [⟨b,o,[.int .i16 v,.pointer ((D.f 0).A),.int .i32 ((D.f 1).n),.slice ((D.f 2).A) ((D.f 2).l) ((D.f 2).c),.map D.m],false⟩,⟨b5,0,[.int .i64 0,.slice none 0 0,.bool false,.slice none 0 0,.slice none 0 0],true⟩,⟨aa,0,[.int .i64 aC,.slice aH aD.length aI,.bool aE,.slice aJ aF.length aK,.slice aL aG.length aM,.int .i64 (IntKind.i64.wrap ((D.f 1).n)),.slice none 0 0,.bool false,.slice none 0 0,.slice none 0 0,.int .i64 0,.slice none 0 0,.bool (((D.f 2).A).isNone),.slice cr (k2_ + 1) cu,.slice none 0 0],true⟩,⟨bw,0,[.int .i64 0,.slice none 0 0,.bool false,.slice (some ⟨aa,0,none⟩) 3 3,.slice none 0 0],true⟩] [(0,.p 0 0),(2,.p 1 0),(3,.p 3 0),(37,.v (.int .i64 (((D.f 2).l:Nat):Int))),(38,.v (.int .i64 (IntKind.i64.wrap (((k2_:Nat):Int) + 1))))]
   obtain ⟨eL,bC⟩:=eK.cutR 1 [⟨cr,cu,37,5,k2_ + 1,xs2_ ++ [.int .i64 bV,.slice b8 bW.length cd,.bool bX,.slice ce bY.length cg,.slice cm bZ.length cq]⟩]
   have eM:IntKind.i64.wrap (((k2_:Nat):Int) + 1) = ((k2_ + 1:Nat):Int):=qaS (by omega)
   rw [eM] at dg
   exact ⟨(D.f 2).l - (k2_ + 1),by omega,k2_ + 1,cr,cu,xs2_ ++ [Value.int .i64 bV,.slice b8 bW.length cd,.bool bX,.slice ce bY.length cg,.slice cm bZ.length cq],(css2_ ++ [[Value.int .i64 bV,.slice b8 bW.length cd,.bool bX,.slice ce bY.length cg,.slice cm bZ.length cq]]),rfl,by omega,by rw [qcr (by omega)]; exact (hT2_.move ((((((((((ae.trans ab).trans aN).trans bz).trans cD).trans au).trans ai).trans av).trans bA).trans bB).trans bC).step immM ((((((((((ae.trans ab).trans aN).trans bz).trans cD).trans au).trans ai).trans av).trans bA).trans bB).trans bC).to').snoc (x:=(fun i=>qbe ((D.f 2).f i)) k2_) (cG.move ((((ai.trans av).trans bA).trans bB).trans bC).step immM ((((ai.trans av).trans bA).trans bB).trans bC).to'),dg.pk,eL,(((((((((((bx.trans ae).trans ab).trans aN).trans bz).trans cD).trans au).trans ai).trans av).trans bA).trans bB).trans bC)⟩
  refine (qan cC c5 (oi:=4) (cs:=[.bool false]) kz fun js af dh eN=>?_)
  have eO:=TT.ofW (ab.trans af) dh
  refine ⟨fun _=>eO,?_⟩
  refine qat (i:=1) kz (qan dh eN (oi:=4) (cs:=[.bool true]) kz fun jt aj bQ eP=>?_)
  have eQ:=TT.ofW ((ab.trans af).trans aj) bQ
  refine ⟨fun _=>eQ,?_⟩
  refine qat (i:=3) kz (qbv [0,2,3,4,37,38,42] bQ.cells eP (env':=[(0,.p 0 0),(2,.p 1 0),(3,.p 3 0),(4,.v (.int .i64 ((k2_:Nat):Int))),(37,.v (.int .i64 (((D.f 2).l:Nat):Int))),(38,.v (.int .i64 ((k2_:Nat):Int))),(42,.v (.bool true))]) kz fun ju di=>?_)
  have eR:=TT.ofW ((ab.trans af).trans aj) bQ
  refine ⟨fun _=>eR,?_⟩
  refine qaB kz ?_ _
  refine qac ?_
  refine qbg di (b:=true) kz rfl ?_
  refine qaM 17 kz bQ fun jv aO ak bR=>?_
  refine qaD [0,1,5,6,7,8,9] [(0,.p 0 0),(2,.p 1 0),(3,.p 3 0),(37,.v (.int .i64 (((D.f 2).l:Nat):Int))),(38,.v (.int .i64 ((k2_:Nat):Int))),(44,.v (.slice (some ⟨aa,0,none⟩) 3 3)),(51,.v (.slice ((D.f 2).A) ((D.f 2).l) ((D.f 2).c))),(52,.v (.int .i64 ((k2_:Nat):Int)))] 11 (qab (qad (qab (qab (qad (qab qaf)))))) (fun _ h=>h.cells) bR di fun jw eS=>?_
  refine qaE eS (i:=2) (t:=34) (A:=(some ⟨aa,0,none⟩)) (m:=3) (q:=2) (d:=45) kz (e:=37) (size:=5) (bytes:=88) (j:=2) kz (b:=aa) (o:=0) rfl rfl (by decide) kz kz (qab (qad (qab (qab (qad (qab qaf)))))) bR fun jx eU=>?_
  have eV:=eU.recast 45 (.v (.pointer (some ⟨aa,0 + 2 * 5,none⟩))) (.p 2 10) rfl rfl (Nat.le_of_ble_eq_true (n:=3) rfl)
  have eW:=eV.pk (env':=[(0,.p 0 0),(2,.p 1 0),(3,.p 3 0),(37,.v (.int .i64 (((D.f 2).l:Nat):Int))),(38,.v (.int .i64 ((k2_:Nat):Int))),(44,.v (.slice (some ⟨aa,0,none⟩) 3 3)),(51,.v (.slice ((D.f 2).A) ((D.f 2).l) ((D.f 2).c))),(52,.v (.int .i64 ((k2_:Nat):Int))),(45,.p 2 10)])
  refine qaD [3,4,12] [(0,.p 0 0),(2,.p 1 0),(3,.p 3 0),(37,.v (.int .i64 (((D.f 2).l:Nat):Int))),(38,.v (.int .i64 ((k2_:Nat):Int))),(44,.v (.slice (some ⟨aa,0,none⟩) 3 3)),(47,.v (.slice A2_ k2_ c2_)),(51,.v (.slice ((D.f 2).A) ((D.f 2).l) ((D.f 2).c))),(52,.v (.int .i64 ((k2_:Nat):Int))),(55,.v (.int .i64 ((k2_:Nat):Int)))] 7 (qab (qad (qab (qab (qad (qab qaf)))))) (fun _ h=>h.cells) bR eW fun jy eX=>?_
  obtain ⟨cU,cV,eY,il,cJ⟩:=Slots.get g3 (i:=k2_) (by omega)
  refine qaE eX (i:=10) (t:=121) (A:=(D.f 2).A) (m:=((D.f 2).l)) (q:=((k2_:Nat):Int)) (d:=53) kz (e:=128) (size:=3) (bytes:=48) kz eY rfl (by omega) kz kz (qab (qad (qab (qab (qad (qab qaf)))))) bR fun jz dj=>?_
  refine qez (i:=11) (j:=13) kz ?_ ?_
  ·
   refine (qal dj (f:=114) (vs:=[.pointer (some ⟨cU,cV + k2_ * 3,none⟩)]) (d:=54) kz Tryz.call114 (qcc 0 ((D.f 2).f k2_) _ _ _ _ (cJ.move ak.step nilM ak.imm) (qbc _ ak.step nilM ak.imm (g3e k2_ (by omega)))) ?_)
   rintro e_ jA ⟨im,rfl,eZ,cK⟩
   have cL:=eZ.move (Step.refl _ Nil) nilM (ak.laid (G:=F) cK)
   obtain ⟨aS,aT,aU,aV,aW,aX,aY,aZ,ba,bd,bf,io,ip,cM,gO,gP,jB,jC⟩:=cL.open_
   rw [cM] at cL
   have gQ:=gO.small
   have gR:=gP.small
   rw [cM]
   refine ⟨_,rfl,fun jD e9=>?_⟩
   have dl:=ak.next_nil cK
   have aw:=ak.frN cK
   have fa:=TT.ofW aw dl
   refine ⟨fun _=>fa,?_⟩
   refine qat (i:=13) kz (qbC dl e9 (e:=37) (size:=5) (len:=1) (cs:=[.int .i64 0,.slice none 0 0,.bool false,.slice none 0 0,.slice none 0 0]) (d:=56) kz kz fun dI jE jF iq ir al bS fb=>?_)
   have fe:=TT.ofW (aw.trans al) bS
   refine ⟨fun _=>fe,?_⟩
   refine qat (i:=14) kz (qaI bS fb (k:=0) (d:=57) (t:=34) (e:=37) (size:=5) (bytes:=88) (A:=A2_) (As:=(some ⟨dI,0,none⟩)) (m0:=k2_) (c:=c2_) (m:=1) (cs:=1) (xs:=xs2_) (news:=[.int .i64 0,.slice none 0 0,.bool false,.slice none 0 0,.slice none 0 0]) kz kz rfl (qbo (bS.own 1 _ rfl) (qbn kz)) (qbx (bS.own 1 _ rfl)) (by omega) fun ao ax jG jH ay cN ff=>?_)
   have fg:=TT.ofW ((aw.trans al).trans ay) cN
   refine ⟨fun _=>fg,?_⟩
   refine qat (i:=15) kz (qas ff (t:=34) (A:=(some ⟨aa,0,none⟩)) (m:=3) (q:=2) (d:=58) kz (e:=37) (size:=5) (bytes:=88) (j:=2) kz (b:=aa) (o:=0) rfl rfl (by decide) fun jI fh=>?_)
   have fi:=fh.recast 58 (.v (.pointer (some ⟨aa,0 + 2 * 5,none⟩))) (.p 2 10) rfl rfl (Nat.le_of_ble_eq_true (n:=3) rfl)
   have fj:=fi.pk (env':=[(0,.p 0 0),(2,.p 1 0),(3,.p 3 0),(37,.v (.int .i64 (((D.f 2).l:Nat):Int))),(38,.v (.int .i64 ((k2_:Nat):Int))),(44,.v (.slice (some ⟨aa,0,none⟩) 3 3)),(47,.v (.slice A2_ k2_ c2_)),(51,.v (.slice ((D.f 2).A) ((D.f 2).l) ((D.f 2).c))),(52,.v (.int .i64 ((k2_:Nat):Int))),(55,.v (.int .i64 ((k2_:Nat):Int))),(53,.v (.pointer (some ⟨cU,cV + k2_ * 3,none⟩))),(54,.v (.agg #[.int .i64 aS,.slice aX aT.length aY,.bool aU,.slice aZ aV.length ba,.slice bd aW.length bf])),(56,.v (.slice (some ⟨dI,0,none⟩) 1 1)),(57,.v (.slice ao (k2_ + 1) ax)),(58,.p 2 10)])
   have dp:=TT.ofW ((aw.trans al).trans ay) cN
   refine ⟨fun _=>dp,?_⟩
   refine qaD [16] [(0,.p 0 0),(2,.p 1 0),(3,.p 3 0),(37,.v (.int .i64 (((D.f 2).l:Nat):Int))),(38,.v (.int .i64 ((k2_:Nat):Int))),(54,.v (.agg #[.int .i64 aS,.slice aX aT.length aY,.bool aU,.slice aZ aV.length ba,.slice bd aW.length bf])),(55,.v (.int .i64 ((k2_:Nat):Int))),(57,.v (.slice ao (k2_ + 1) ax)),(59,.p 2 13)] 1 (qab (qad (qab (qab (qad (qab qaf)))))) (fun _ h=>h.cells) dp fj fun jJ fk=>?_
   refine qat (i:=17) kz (qan cN fk (oi:=2) (cs:=[.int .i64 aC,.slice aH aD.length aI,.bool aE,.slice aJ aF.length aK,.slice aL aG.length aM,.int .i64 (IntKind.i64.wrap ((D.f 1).n)),.slice none 0 0,.bool false,.slice none 0 0,.slice none 0 0,.int .i64 0,.slice none 0 0,.bool (((D.f 2).A).isNone),.slice ao (k2_ + 1) ax,.slice none 0 0]) kz fun gS bD dq fl=>?_)
   refine ⟨fun h=>absurd rfl h,?_⟩
   refine qaB kz ?_ _
   refine qac ?_
   refine qap [0,1] kz ?_
   have fm:World.ownsRow gS 0 37 5 (.slice ao (k2_ + 1) ax) (k2_ + 1) (xs2_ ++ [.int .i64 0,.slice none 0 0,.bool false,.slice none 0 0,.slice none 0 0]):=dq.own 0 _ rfl
   obtain ⟨fo,dr⟩:=qbY fm (by omega)
   refine qaj (qas fl (t:=34) (A:=ao) (m:=(k2_ + 1)) (q:=((k2_:Nat):Int)) (d:=60) kz (e:=37) (size:=5) (bytes:=88) kz (b:=fo) (o:=0) (j:=k2_) dr (rfl) (by omega) fun jK fq=>?_)
   refine qaj (qbU dq fq (k:=0) (g:=fo) (o:=k2_ * 5) (c:=ax) (m:=(k2_ + 1)) (size:=5) (e:=37) (A:=ao) (xs:=(xs2_ ++ [.int .i64 0,.slice none 0 0,.bool false,.slice none 0 0,.slice none 0 0])) (vs:=[.int .i64 aS,.slice aX aT.length aY,.bool aU,.slice aZ aV.length ba,.slice bd aW.length bf]) kz rfl dr (by simp only [List.length_cons,List.length_nil]; omega) fun jL bE fr ft=>?_)
   have fu:(⟨ao,ax,37,5,k2_ + 1,qbb (xs2_ ++ [.int .i64 0,.slice none 0 0,.bool false,.slice none 0 0,.slice none 0 0]) (k2_ * 5) [.int .i64 aS,.slice aX aT.length aY,.bool aU,.slice aZ aV.length ba,.slice bd aW.length bf]⟩:Rw) = ⟨ao,ax,37,5,k2_ + 1,xs2_ ++ [.int .i64 aS,.slice aX aT.length aY,.bool aU,.slice aZ aV.length ba,.slice bd aW.length bf]⟩:=by rw [qc0 (by rw [hT2_.xslen,List.length_take,qci]; omega)]
   obtain ⟨dt,bF⟩:=fr.rowEq 0 [⟨ao,ax,37,5,k2_ + 1,xs2_ ++ [.int .i64 aS,.slice aX aT.length aY,.bool aU,.slice aZ aV.length ba,.slice bd aW.length bf]⟩,⟨some ⟨dI,0,none⟩,1,37,5,1,[.int .i64 0,.slice none 0 0,.bool false,.slice none 0 0,.slice none 0 0]⟩] fu
   refine qag ?_
   refine qaw ?_
   refine qac ?_
   refine qap [0,1] kz ?_
   refine qak [0,1] [] [(0,.p 0 0),(2,.p 1 0),(3,.p 3 0),(37,.v (.int .i64 (((D.f 2).l:Nat):Int))),(38,.v (.int .i64 (IntKind.i64.wrap (((k2_:Nat):Int) + 1))))] dt ft fun jM fv=>?_
   refine qag (qac ?_)
   obtain ⟨du,fw,bG⟩:=dt.cutB fv 4 [⟨b,o,[.int .i16 v,.pointer ((D.f 0).A),.int .i32 ((D.f 1).n),.slice ((D.f 2).A) ((D.f 2).l) ((D.f 2).c),.map D.m],false⟩,⟨b5,0,[.int .i64 0,.slice none 0 0,.bool false,.slice none 0 0,.slice none 0 0],true⟩,⟨aa,0,[.int .i64 aC,.slice aH aD.length aI,.bool aE,.slice aJ aF.length aK,.slice aL aG.length aM,.int .i64 (IntKind.i64.wrap ((D.f 1).n)),.slice none 0 0,.bool false,.slice none 0 0,.slice none 0 0,.int .i64 0,.slice none 0 0,.bool (((D.f 2).A).isNone),.slice ao (k2_ + 1) ax,.slice none 0 0],true⟩,⟨bw,0,[.int .i64 0,.slice none 0 0,.bool false,.slice (some ⟨aa,0,none⟩) 3 3,.slice none 0 0],true⟩] [(0,.p 0 0),(2,.p 1 0),(3,.p 3 0),(37,.v (.int .i64 (((D.f 2).l:Nat):Int))),(38,.v (.int .i64 (IntKind.i64.wrap (((k2_:Nat):Int) + 1))))]
   obtain ⟨fx,bH⟩:=fw.cutR 1 [⟨ao,ax,37,5,k2_ + 1,xs2_ ++ [.int .i64 aS,.slice aX aT.length aY,.bool aU,.slice aZ aV.length ba,.slice bd aW.length bf]⟩]
   have fy:IntKind.i64.wrap (((k2_:Nat):Int) + 1) = ((k2_ + 1:Nat):Int):=qaS (by omega)
   rw [fy] at du
   exact ⟨(D.f 2).l - (k2_ + 1),by omega,k2_ + 1,ao,ax,xs2_ ++ [Value.int .i64 aS,.slice aX aT.length aY,.bool aU,.slice aZ aV.length ba,.slice bd aW.length bf],(css2_ ++ [[Value.int .i64 aS,.slice aX aT.length aY,.bool aU,.slice aZ aV.length ba,.slice bd aW.length bf]]),rfl,by omega,by rw [qcr (by omega)]; exact (hT2_.move ((((((((((((ae.trans ab).trans af).trans aj).trans aO).trans aw).trans al).trans ay).trans bD).trans bE).trans bF).trans bG).trans bH).step immM ((((((((((((ae.trans ab).trans af).trans aj).trans aO).trans aw).trans al).trans ay).trans bD).trans bE).trans bF).trans bG).trans bH).to').snoc (x:=(fun i=>qbe ((D.f 2).f i)) k2_) (cL.move ((((((al.trans ay).trans bD).trans bE).trans bF).trans bG).trans bH).step immM ((((((al.trans ay).trans bD).trans bE).trans bF).trans bG).trans bH).to'),du.pk,fx,(((((((((((((bx.trans ae).trans ab).trans af).trans aj).trans aO).trans aw).trans al).trans ay).trans bD).trans bE).trans bF).trans bG).trans bH)⟩
  refine (qbC ak dj (e:=37) (size:=5) (len:=1) (cs:=[.int .i64 0,.slice none 0 0,.bool false,.slice none 0 0,.slice none 0 0]) (d:=56) kz kz fun dJ jN jO iu iv az am fz=>?_)
  have fA:=TT.ofW az am
  refine ⟨fun _=>fA,?_⟩
  refine qat (i:=11) kz (qal fz (f:=114) (vs:=[.pointer (some ⟨cU,cV + k2_ * 3,none⟩)]) (d:=54) kz Tryz.call114 (qcc 0 ((D.f 2).f k2_) _ _ _ _ (cJ.move am.step nilM am.imm) (qbc _ am.step nilM am.imm (g3e k2_ (by omega)))) ?_)
  rintro e_ jP ⟨iw,rfl,fB,cO⟩
  have cP:=fB.move (Step.refl _ Nil) nilM (am.laid (G:=F) cO)
  obtain ⟨bg,bh,bi,bj,bk,bn,bo,bp,bq,bt,bu,ix,iy,cQ,gT,gU,jQ,jR⟩:=cP.open_
  rw [cQ] at cP
  have gV:=gT.small
  have gW:=gU.small
  rw [cQ]
  refine ⟨_,rfl,fun jS fC=>?_⟩
  have bT:=am.next_nil cO
  have aP:=am.frN cO
  have fD:=TT.ofW (az.trans aP) bT
  refine ⟨fun _=>fD,?_⟩
  refine qat (i:=14) kz (qaI bT fC (k:=0) (d:=57) (t:=34) (e:=37) (size:=5) (bytes:=88) (A:=A2_) (As:=(some ⟨dJ,0,none⟩)) (m0:=k2_) (c:=c2_) (m:=1) (cs:=1) (xs:=xs2_) (news:=[.int .i64 0,.slice none 0 0,.bool false,.slice none 0 0,.slice none 0 0]) kz kz rfl (qbo (bT.own 1 _ rfl) (qbn kz)) (qbx (bT.own 1 _ rfl)) (by omega) fun ap aA jT jU aB cR fE=>?_)
  have fF:=TT.ofW ((az.trans aP).trans aB) cR
  refine ⟨fun _=>fF,?_⟩
  refine qat (i:=15) kz (qas fE (t:=34) (A:=(some ⟨aa,0,none⟩)) (m:=3) (q:=2) (d:=58) kz (e:=37) (size:=5) (bytes:=88) (j:=2) kz (b:=aa) (o:=0) rfl rfl (by decide) fun jV fG=>?_)
  have fH:=fG.recast 58 (.v (.pointer (some ⟨aa,0 + 2 * 5,none⟩))) (.p 2 10) rfl rfl (Nat.le_of_ble_eq_true (n:=3) rfl)
  have fI:=fH.pk (env':=[(0,.p 0 0),(2,.p 1 0),(3,.p 3 0),(37,.v (.int .i64 (((D.f 2).l:Nat):Int))),(38,.v (.int .i64 ((k2_:Nat):Int))),(44,.v (.slice (some ⟨aa,0,none⟩) 3 3)),(47,.v (.slice A2_ k2_ c2_)),(51,.v (.slice ((D.f 2).A) ((D.f 2).l) ((D.f 2).c))),(52,.v (.int .i64 ((k2_:Nat):Int))),(55,.v (.int .i64 ((k2_:Nat):Int))),(53,.v (.pointer (some ⟨cU,cV + k2_ * 3,none⟩))),(56,.v (.slice (some ⟨dJ,0,none⟩) 1 1)),(54,.v (.agg #[.int .i64 bg,.slice bn bh.length bo,.bool bi,.slice bp bj.length bq,.slice bt bk.length bu])),(57,.v (.slice ap (k2_ + 1) aA)),(58,.p 2 10)])
  have dv:=TT.ofW ((az.trans aP).trans aB) cR
  refine ⟨fun _=>dv,?_⟩
  refine qaD [16] [(0,.p 0 0),(2,.p 1 0),(3,.p 3 0),(37,.v (.int .i64 (((D.f 2).l:Nat):Int))),(38,.v (.int .i64 ((k2_:Nat):Int))),(54,.v (.agg #[.int .i64 bg,.slice bn bh.length bo,.bool bi,.slice bp bj.length bq,.slice bt bk.length bu])),(55,.v (.int .i64 ((k2_:Nat):Int))),(57,.v (.slice ap (k2_ + 1) aA)),(59,.p 2 13)] 1 (qab (qad (qab (qab (qad (qab qaf)))))) (fun _ h=>h.cells) dv fI fun jW fJ=>?_
  refine qat (i:=17) kz (qan cR fJ (oi:=2) (cs:=[.int .i64 aC,.slice aH aD.length aI,.bool aE,.slice aJ aF.length aK,.slice aL aG.length aM,.int .i64 (IntKind.i64.wrap ((D.f 1).n)),.slice none 0 0,.bool false,.slice none 0 0,.slice none 0 0,.int .i64 0,.slice none 0 0,.bool (((D.f 2).A).isNone),.slice ap (k2_ + 1) aA,.slice none 0 0]) kz fun gX bI dw fK=>?_)
  refine ⟨fun h=>absurd rfl h,?_⟩
  refine qaB kz ?_ _
  refine qac ?_
  refine qap [0,1] kz ?_
  have fL:World.ownsRow gX 0 37 5 (.slice ap (k2_ + 1) aA) (k2_ + 1) (xs2_ ++ [.int .i64 0,.slice none 0 0,.bool false,.slice none 0 0,.slice none 0 0]):=dw.own 0 _ rfl
  obtain ⟨fM,dx⟩:=qbY fL (by omega)
  refine qaj (qas fK (t:=34) (A:=ap) (m:=(k2_ + 1)) (q:=((k2_:Nat):Int)) (d:=60) kz (e:=37) (size:=5) (bytes:=88) kz (b:=fM) (o:=0) (j:=k2_) dx (rfl) (by omega) fun jX fN=>?_)
  refine qaj (qbU dw fN (k:=0) (g:=fM) (o:=k2_ * 5) (c:=aA) (m:=(k2_ + 1)) (size:=5) (e:=37) (A:=ap) (xs:=(xs2_ ++ [.int .i64 0,.slice none 0 0,.bool false,.slice none 0 0,.slice none 0 0])) (vs:=[.int .i64 bg,.slice bn bh.length bo,.bool bi,.slice bp bj.length bq,.slice bt bk.length bu]) kz rfl dx (by simp only [List.length_cons,List.length_nil]; omega) fun jY bJ fO fP=>?_)
  have fQ:(⟨ap,aA,37,5,k2_ + 1,qbb (xs2_ ++ [.int .i64 0,.slice none 0 0,.bool false,.slice none 0 0,.slice none 0 0]) (k2_ * 5) [.int .i64 bg,.slice bn bh.length bo,.bool bi,.slice bp bj.length bq,.slice bt bk.length bu]⟩:Rw) = ⟨ap,aA,37,5,k2_ + 1,xs2_ ++ [.int .i64 bg,.slice bn bh.length bo,.bool bi,.slice bp bj.length bq,.slice bt bk.length bu]⟩:=by rw [qc0 (by rw [hT2_.xslen,List.length_take,qci]; omega)]
  obtain ⟨dy,bK⟩:=fO.rowEq 0 [⟨ap,aA,37,5,k2_ + 1,xs2_ ++ [.int .i64 bg,.slice bn bh.length bo,.bool bi,.slice bp bj.length bq,.slice bt bk.length bu]⟩,⟨some ⟨dJ,0,none⟩,1,37,5,1,[.int .i64 0,.slice none 0 0,.bool false,.slice none 0 0,.slice none 0 0]⟩] fQ
  refine qag ?_
  refine qaw ?_
  refine qac ?_
  refine qap [0,1] kz ?_
  refine qak [0,1] [] [(0,.p 0 0),(2,.p 1 0),(3,.p 3 0),(37,.v (.int .i64 (((D.f 2).l:Nat):Int))),(38,.v (.int .i64 (IntKind.i64.wrap (((k2_:Nat):Int) + 1))))] dy fP fun jZ fR=>?_
  refine qag (qac ?_)
  obtain ⟨dz,fS,bL⟩:=dy.cutB fR 4 [⟨b,o,[.int .i16 v,.pointer ((D.f 0).A),.int .i32 ((D.f 1).n),.slice ((D.f 2).A) ((D.f 2).l) ((D.f 2).c),.map D.m],false⟩,⟨b5,0,[.int .i64 0,.slice none 0 0,.bool false,.slice none 0 0,.slice none 0 0],true⟩,⟨aa,0,[.int .i64 aC,.slice aH aD.length aI,.bool aE,.slice aJ aF.length aK,.slice aL aG.length aM,.int .i64 (IntKind.i64.wrap ((D.f 1).n)),.slice none 0 0,.bool false,.slice none 0 0,.slice none 0 0,.int .i64 0,.slice none 0 0,.bool (((D.f 2).A).isNone),.slice ap (k2_ + 1) aA,.slice none 0 0],true⟩,⟨bw,0,[.int .i64 0,.slice none 0 0,.bool false,.slice (some ⟨aa,0,none⟩) 3 3,.slice none 0 0],true⟩] [(0,.p 0 0),(2,.p 1 0),(3,.p 3 0),(37,.v (.int .i64 (((D.f 2).l:Nat):Int))),(38,.v (.int .i64 (IntKind.i64.wrap (((k2_:Nat):Int) + 1))))]
  obtain ⟨fT,bM⟩:=fS.cutR 1 [⟨ap,aA,37,5,k2_ + 1,xs2_ ++ [.int .i64 bg,.slice bn bh.length bo,.bool bi,.slice bp bj.length bq,.slice bt bk.length bu]⟩]
  have fU:IntKind.i64.wrap (((k2_:Nat):Int) + 1) = ((k2_ + 1:Nat):Int):=qaS (by omega)
  rw [fU] at dz
  exact ⟨(D.f 2).l - (k2_ + 1),by omega,k2_ + 1,ap,aA,xs2_ ++ [Value.int .i64 bg,.slice bn bh.length bo,.bool bi,.slice bp bj.length bq,.slice bt bk.length bu],(css2_ ++ [[Value.int .i64 bg,.slice bn bh.length bo,.bool bi,.slice bp bj.length bq,.slice bt bk.length bu]]),rfl,by omega,by rw [qcr (by omega)]; exact (hT2_.move ((((((((((((ae.trans ab).trans af).trans aj).trans aO).trans az).trans aP).trans aB).trans bI).trans bJ).trans bK).trans bL).trans bM).step immM ((((((((((((ae.trans ab).trans af).trans aj).trans aO).trans az).trans aP).trans aB).trans bI).trans bJ).trans bK).trans bL).trans bM).to').snoc (x:=(fun i=>qbe ((D.f 2).f i)) k2_) (cP.move (((((aB.trans bI).trans bJ).trans bK).trans bL).trans bM).step immM (((((aB.trans bI).trans bJ).trans bK).trans bL).trans bM).to'),dz.pk,fT,(((((((((((((bx.trans ae).trans ab).trans af).trans aj).trans aO).trans az).trans aP).trans aB).trans bI).trans bJ).trans bK).trans bL).trans bM)⟩
 have iz:=of_decide_eq_false cB
 refine wp_exit ?_
 refine qav ?_
 refine qav ?_
 refine qaO ?_
 refine qac ?_
 refine qae [0,1,2,3,4] kz ?_
 refine qak [0,1,2] [3,4] [(2,.p 1 0),(3,.p 3 0),(82,.p 0 4)] ac cA fun j0 fV=>?_
 refine qaj (qes fV (v:=.func (.func 115) #[] #[.pointer (some ⟨bw,0,none⟩)]) (d:=83) kz fun j1 fW=>?_)
 refine qaj (qal fW (f:=103) (vs:=[.pointer (some ⟨b,o + 4,none⟩),.func (.func 115) #[] #[.pointer (some ⟨bw,0,none⟩)]]) (d:=84) kz Tryz.call103 (qeX (F:=(Imm F w gJ [⟨b,o,[.int .i16 v,.pointer ((D.f 0).A),.int .i32 ((D.f 1).n),.slice ((D.f 2).A) ((D.f 2).l) ((D.f 2).c),.map D.m],false⟩,⟨b5,0,[.int .i64 0,.slice none 0 0,.bool false,.slice none 0 0,.slice none 0 0],true⟩,⟨aa,0,[.int .i64 aC,.slice aH aD.length aI,.bool aE,.slice aJ aF.length aK,.slice aL aG.length aM,.int .i64 (IntKind.i64.wrap ((D.f 1).n)),.slice none 0 0,.bool false,.slice none 0 0,.slice none 0 0,.int .i64 0,.slice none 0 0,.bool (((D.f 2).A).isNone),.slice A2_ k2_ c2_,.slice none 0 0],true⟩,⟨bw,0,[.int .i64 0,.slice none 0 0,.bool false,.slice (some ⟨aa,0,none⟩) 3 3,.slice none 0 0],true⟩] [⟨A2_,c2_,37,5,k2_,xs2_⟩])) Tryz.call115 qe2 ((hat.one 4 rfl).move ac.step nilM ac.imm) (g4.move ac.step nilM ac.imm) (Str.of ac 3 rfl) (qjy 3 rfl) g4l) ?_)
 rintro e_ j2 ⟨rfl,ag,ah,dK,fX,fY⟩
 obtain ⟨cS,bU,fZ⟩:=ac.wrote 3 [⟨b,o,[.int .i16 v,.pointer ((D.f 0).A),.int .i32 ((D.f 1).n),.slice ((D.f 2).A) ((D.f 2).l) ((D.f 2).c),.map D.m],false⟩,⟨b5,0,[.int .i64 0,.slice none 0 0,.bool false,.slice none 0 0,.slice none 0 0],true⟩,⟨aa,0,[.int .i64 aC,.slice aH aD.length aI,.bool aE,.slice aJ aF.length aK,.slice aL aG.length aM,.int .i64 (IntKind.i64.wrap ((D.f 1).n)),.slice none 0 0,.bool false,.slice none 0 0,.slice none 0 0,.int .i64 0,.slice none 0 0,.bool (((D.f 2).A).isNone),.slice A2_ k2_ c2_,.slice none 0 0],true⟩,⟨bw,0,[.int .i64 0,.slice none 0 0,.bool false,.slice (some ⟨aa,0,none⟩) 3 3,.slice ag D.u.length ah],true⟩] rfl fY dK
 have dA:=fX.move (Step.refl _ Nil) nilM (fun b_ o_ h_ hb_=>fZ (G:=F) b_ o_ (.inr h_) hb_)
 refine ⟨_,rfl,fun j3 f7=>?_⟩
 have f8:=(EnvOk.places (tb':=[⟨b,o,[.int .i16 v,.pointer ((D.f 0).A),.int .i32 ((D.f 1).n),.slice ((D.f 2).A) ((D.f 2).l) ((D.f 2).c),.map D.m],false⟩,⟨b5,0,[.int .i64 0,.slice none 0 0,.bool false,.slice none 0 0,.slice none 0 0],true⟩,⟨aa,0,[.int .i64 aC,.slice aH aD.length aI,.bool aE,.slice aJ aF.length aK,.slice aL aG.length aM,.int .i64 (IntKind.i64.wrap ((D.f 1).n)),.slice none 0 0,.bool false,.slice none 0 0,.slice none 0 0,.int .i64 0,.slice none 0 0,.bool (((D.f 2).A).isNone),.slice A2_ k2_ c2_,.slice none 0 0],true⟩,⟨bw,0,[.int .i64 0,.slice none 0 0,.bool false,.slice (some ⟨aa,0,none⟩) 3 3,.slice ag D.u.length ah],true⟩]) f7 (show Pl [⟨b,o,[.int .i16 v,.pointer ((D.f 0).A),.int .i32 ((D.f 1).n),.slice ((D.f 2).A) ((D.f 2).l) ((D.f 2).c),.map D.m],false⟩,⟨b5,0,[.int .i64 0,.slice none 0 0,.bool false,.slice none 0 0,.slice none 0 0],true⟩,⟨aa,0,[.int .i64 aC,.slice aH aD.length aI,.bool aE,.slice aJ aF.length aK,.slice aL aG.length aM,.int .i64 (IntKind.i64.wrap ((D.f 1).n)),.slice none 0 0,.bool false,.slice none 0 0,.slice none 0 0,.int .i64 0,.slice none 0 0,.bool (((D.f 2).A).isNone),.slice A2_ k2_ c2_,.slice none 0 0],true⟩,⟨bw,0,[.int .i64 0,.slice none 0 0,.bool false,.slice (some ⟨aa,0,none⟩) 3 3,.slice none 0 0],true⟩] [⟨b,o,[.int .i16 v,.pointer ((D.f 0).A),.int .i32 ((D.f 1).n),.slice ((D.f 2).A) ((D.f 2).l) ((D.f 2).c),.map D.m],false⟩,⟨b5,0,[.int .i64 0,.slice none 0 0,.bool false,.slice none 0 0,.slice none 0 0],true⟩,⟨aa,0,[.int .i64 aC,.slice aH aD.length aI,.bool aE,.slice aJ aF.length aK,.slice aL aG.length aM,.int .i64 (IntKind.i64.wrap ((D.f 1).n)),.slice none 0 0,.bool false,.slice none 0 0,.slice none 0 0,.int .i64 0,.slice none 0 0,.bool (((D.f 2).A).isNone),.slice A2_ k2_ c2_,.slice none 0 0],true⟩,⟨bw,0,[.int .i64 0,.slice none 0 0,.bool false,.slice (some ⟨aa,0,none⟩) 3 3,.slice ag D.u.length ah],true⟩] from ⟨rfl,rfl,⟨rfl,rfl,⟨rfl,rfl,⟨rfl,rfl,trivial⟩⟩⟩⟩)).pk (env':=[(84,.v (.tuple #[])),(2,.p 1 0),(3,.p 3 0),(82,.p 0 4),(83,.v (.func (.func 115) #[] #[.pointer (some ⟨bw,0,none⟩)]))])
 refine qag (qac ?_)
 refine qae [0,1,2] kz ?_
 refine qak [0,1] [2] [(2,.p 1 0),(3,.p 3 0),(86,.v (.slice ag D.u.length ah))] cS f8 fun j4 f9=>?_
 refine qaj (qal f9 (f:=105) (vs:=[.slice ag D.u.length ah]) (d:=87) kz Tryz.call105 (qgY dA g4.sorted) ?_)
 rintro e_ j5 ⟨rfl,dB⟩
 refine ⟨_,rfl,fun j6 ga=>?_⟩
 have dC:=cS.next_nil dB
 have aQ:=cS.frN dB
 refine qag (qac ?_)
 refine qae [0,1] kz ?_
 refine qak [0] [1] [(2,.p 1 0),(88,.v (.agg #[.int .i64 0,.slice none 0 0,.bool false,.slice (some ⟨aa,0,none⟩) 3 3,.slice ag D.u.length ah]))] dC ga fun j7 gb=>?_
 refine qaj (qan dC gb (oi:=1) (cs:=[.int .i64 0,.slice none 0 0,.bool false,.slice (some ⟨aa,0,none⟩) 3 3,.slice ag D.u.length ah]) kz fun dL aR cT gc=>?_)
 refine qag (qac ?_)
 refine wp_ret ?_
 refine qaP gc cT.cells (v:=.agg #[.int .i64 0,.slice none 0 0,.bool false,.slice (some ⟨aa,0,none⟩) 3 3,.slice ag D.u.length ah]) kz ?_
 have dD:=(hT2_.move ((bU.trans aQ).trans aR).step immM ((bU.trans aQ).trans aR).to')
 rw [qho (by omega)] at dD
 exact qfP (u:=D.u) (l:=[qkt (D.f 0).A (D.f 0).s,.mk (IntKind.i64.wrap (D.f 1).n) [] false [] [],.mk 0 [] (D.f 2).A.isNone ((List.range (D.f 2).l).map fun i=>qbe ((D.f 2).f i)) []]) (css:=[[.int .i64 aC,.slice aH aD.length aI,.bool aE,.slice aJ aF.length aK,.slice aL aG.length aM],[.int .i64 (IntKind.i64.wrap ((D.f 1).n)),.slice none 0 0,.bool false,.slice none 0 0,.slice none 0 0],[.int .i64 0,.slice none 0 0,.bool (((D.f 2).A).isNone),.slice A2_ k2_ c2_,.slice none 0 0]]) cT 2 rfl ⟨(show TreeR _ (Imm F w dL [⟨b,o,[.int .i16 v,.pointer ((D.f 0).A),.int .i32 ((D.f 1).n),.slice ((D.f 2).A) ((D.f 2).l) ((D.f 2).c),.map D.m],false⟩,⟨b5,0,[.int .i64 0,.slice none 0 0,.bool false,.slice (some ⟨aa,0,none⟩) 3 3,.slice ag D.u.length ah],true⟩,⟨aa,0,[.int .i64 aC,.slice aH aD.length aI,.bool aE,.slice aJ aF.length aK,.slice aL aG.length aM,.int .i64 (IntKind.i64.wrap ((D.f 1).n)),.slice none 0 0,.bool false,.slice none 0 0,.slice none 0 0,.int .i64 0,.slice none 0 0,.bool (((D.f 2).A).isNone),.slice A2_ k2_ c2_,.slice none 0 0],true⟩,⟨bw,0,[.int .i64 0,.slice none 0 0,.bool false,.slice (some ⟨aa,0,none⟩) 3 3,.slice ag D.u.length ah],true⟩] [⟨A2_,c2_,37,5,k2_,xs2_⟩]) _ _ from (dF.move (((((((((dP.trans dQ).trans dS).trans dT).trans cX).trans cZ).trans bx).trans bU).trans aQ).trans aR).step immM (((((((((dP.trans dQ).trans dS).trans dT).trans cX).trans cZ).trans bx).trans bU).trans aQ).trans aR).to')).move (Step.refl _ Nil) nilM qbp,(show TreeR _ (Imm F w dL [⟨b,o,[.int .i16 v,.pointer ((D.f 0).A),.int .i32 ((D.f 1).n),.slice ((D.f 2).A) ((D.f 2).l) ((D.f 2).c),.map D.m],false⟩,⟨b5,0,[.int .i64 0,.slice none 0 0,.bool false,.slice (some ⟨aa,0,none⟩) 3 3,.slice ag D.u.length ah],true⟩,⟨aa,0,[.int .i64 aC,.slice aH aD.length aI,.bool aE,.slice aJ aF.length aK,.slice aL aG.length aM,.int .i64 (IntKind.i64.wrap ((D.f 1).n)),.slice none 0 0,.bool false,.slice none 0 0,.slice none 0 0,.int .i64 0,.slice none 0 0,.bool (((D.f 2).A).isNone),.slice A2_ k2_ c2_,.slice none 0 0],true⟩,⟨bw,0,[.int .i64 0,.slice none 0 0,.bool false,.slice (some ⟨aa,0,none⟩) 3 3,.slice ag D.u.length ah],true⟩] [⟨A2_,c2_,37,5,k2_,xs2_⟩]) _ _ from (TreeR.mk (n:=IntKind.i64.wrap ((D.f 1).n)) (b:=false) (s:=[]) (l:=[]) (u:=[]) (fun _=>[]) (Octs.nil _ _) (Slots.nil _ _ _ _) (fun i_ x_ h_=>by simp at h_) (TagsR.nil _ _))).move (Step.refl _ Nil) nilM qbp,qgu cT (k:=0) rfl dD (by rw [qci]; omega) (by rw [qci]; omega),trivial⟩ ((show TagsR _ (Imm F w dL [⟨b,o,[.int .i16 v,.pointer ((D.f 0).A),.int .i32 ((D.f 1).n),.slice ((D.f 2).A) ((D.f 2).l) ((D.f 2).c),.map D.m],false⟩,⟨b5,0,[.int .i64 0,.slice none 0 0,.bool false,.slice (some ⟨aa,0,none⟩) 3 3,.slice ag D.u.length ah],true⟩,⟨aa,0,[.int .i64 aC,.slice aH aD.length aI,.bool aE,.slice aJ aF.length aK,.slice aL aG.length aM,.int .i64 (IntKind.i64.wrap ((D.f 1).n)),.slice none 0 0,.bool false,.slice none 0 0,.slice none 0 0,.int .i64 0,.slice none 0 0,.bool (((D.f 2).A).isNone),.slice A2_ k2_ c2_,.slice none 0 0],true⟩,⟨bw,0,[.int .i64 0,.slice none 0 0,.bool false,.slice (some ⟨aa,0,none⟩) 3 3,.slice ag D.u.length ah],true⟩] [⟨A2_,c2_,37,5,k2_,xs2_⟩]) _ _ _ from (dA.move (aQ.trans aR).step immM (aQ.trans aR).to')).move (Step.refl _ Nil) nilM qbp)
def DefF:Fld → Tree → Prop
 | .mk k _ _ _ _ x5 _ _,g=>x5 = 0 ∨ g.N = qb6 k x5
def DefP (l:List Fld) (g:Tree):Prop:=∀ (i:Nat) (f:Fld),l[i]? = some f → DefF f (g.at_ i)
theorem qlq {k x1 x2 x3 x4 x5 x6 n:Int} {s:List Fld} {b:Bs} {c:Bool} {l:List Tree} {u:List (Int × Bs)} (h:DefF (.mk k x1 x2 x3 x4 x5 x6 s) (.mk n b c l u)) (h1:(x5 != 0) = true) (h2:(n != qb6 k x5) = true):False:=by
 have h':x5 = 0 ∨ n = qb6 k x5:=h
 rcases h' with h' | h'
 ·rw [h'] at h1; simp at h1
 rw [h'] at h2; simp at h2
theorem qkv (k n:Int) (w:World):Calls Tryz.prog 48 #[.int .i64 k,.int .i64 n] w (qck w (.int .i64 (qb6 k n))):=by
 refine enter (n:=31) Tryz.func48 rfl Tryz.ntmps48 kz fun a hE=>?_
 have hW:=WOk.start w Nil
 refine qar [(0,.v (.int .i64 k)),(1,.v (.int .i64 n))] hW hE fun a1 hE2=>?_
 refine wp_seq ?_
 refine qar [(1,.v (.int .i64 n)),(5,.v (.int .i64 k))] hW hE2 fun a3 hE4=>?_
 refine wp_block ?_
 refine qar [(1,.v (.int .i64 n)),(5,.v (.int .i64 k)),(6,.v (.bool (k == 0)))] hW hE4 fun a5 hE6=>?_
 refine qaz hE6 (b:=k == 0) kz (fun hc7=>?_) (fun hc7=>?_)
 ·
  have hf8:k = 0:=by simpa using hc7
  refine qar [(4,.v (.int .i64 (IntKind.i64.wrap (BitVec.ofInt 64 n &&& BitVec.ofInt 64 1).toNat)))] hW hE6 fun a9 aj=>?_
  refine wp_ret ?_
  refine qaQ ?_
  refine qaA ?_
  refine qaP aj hW.cells (v:=.int .i64 (IntKind.i64.wrap (BitVec.ofInt 64 n &&& BitVec.ofInt 64 1).toNat)) kz ?_
  exact ⟨by (try simp only [and1]); simp_all [qb6,qhV,qfp,qfq,qeh],hW.step⟩
 have ar:k ≠ 0:=by simpa using hc7
 refine qar [(1,.v (.int .i64 n)),(5,.v (.int .i64 k)),(10,.v (.bool (k == 1)))] hW hE6 fun aC aa=>?_
 refine qaz aa (b:=k == 1) kz (fun ab=>?_) (fun ab=>?_)
 ·
  have au:k = 1:=by simpa using ab
  refine qar [(4,.v (.int .i64 (IntKind.i64.wrap (IntKind.i8.wrap n))))] hW aa fun aD ak=>?_
  refine wp_ret ?_
  refine qaQ ?_
  refine qaA ?_
  refine qaP ak hW.cells (v:=.int .i64 (IntKind.i64.wrap (IntKind.i8.wrap n))) kz ?_
  exact ⟨by (try simp only [and1]); simp_all [qb6,qhV,qfp,qfq,qeh],hW.step⟩
 have av:k ≠ 1:=by simpa using ab
 refine qar [(1,.v (.int .i64 n)),(5,.v (.int .i64 k)),(15,.v (.bool (k == 2)))] hW aa fun aE ac=>?_
 refine qaz ac (b:=k == 2) kz (fun ae=>?_) (fun ae=>?_)
 ·
  have aw:k = 2:=by simpa using ae
  refine qar [(4,.v (.int .i64 (IntKind.i64.wrap (IntKind.i16.wrap n))))] hW ac fun aF al=>?_
  refine wp_ret ?_
  refine qaQ ?_
  refine qaA ?_
  refine qaP al hW.cells (v:=.int .i64 (IntKind.i64.wrap (IntKind.i16.wrap n))) kz ?_
  exact ⟨by (try simp only [and1]); simp_all [qb6,qhV,qfp,qfq,qeh],hW.step⟩
 have ax:k ≠ 2:=by simpa using ae
 refine qar [(1,.v (.int .i64 n)),(5,.v (.int .i64 k)),(20,.v (.bool (k == 3)))] hW ac fun aG af=>?_
 refine qaz af (b:=k == 3) kz (fun ag=>?_) (fun ag=>?_)
 ·
  have ay:k = 3:=by simpa using ag
  refine qar [(4,.v (.int .i64 (IntKind.i64.wrap (IntKind.i32.wrap n))))] hW af fun aH am=>?_
  refine wp_ret ?_
  refine qaQ ?_
  refine qaA ?_
  refine qaP am hW.cells (v:=.int .i64 (IntKind.i64.wrap (IntKind.i32.wrap n))) kz ?_
  exact ⟨by (try simp only [and1]); simp_all [qb6,qhV,qfp,qfq,qeh],hW.step⟩
 have az:k ≠ 3:=by simpa using ag
 refine qar [(1,.v (.int .i64 n)),(25,.v (.bool (k == 5)))] hW af fun aI ah=>?_
 refine qaz ah (b:=k == 5) kz (fun ai=>?_) (fun ai=>?_)
 ·
  have aA:k = 5:=by simpa using ai
  refine qar [(4,.v (.int .i64 (IntKind.i64.wrap (IntKind.u16.wrap n))))] hW ah fun aJ ao=>?_
  refine wp_ret ?_
  refine qaQ ?_
  refine qaA ?_
  refine qaP ao hW.cells (v:=.int .i64 (IntKind.i64.wrap (IntKind.u16.wrap n))) kz ?_
  exact ⟨by (try simp only [and1]); simp_all [qb6,qhV,qfp,qfq,qeh],hW.step⟩
 have aB:k ≠ 5:=by simpa using ai
 refine wp_skip ?_
 refine qaw ?_
 refine qac ?_
 refine qar [(4,.v (.int .i64 n))] hW ah fun aK ap=>?_
 refine wp_ret ?_
 refine qaP ap hW.cells (v:=.int .i64 n) kz ?_
 exact ⟨by (try simp only [and1]); simp_all [qb6,qhV,qfp,qfq,qeh],hW.step⟩
theorem qi7 (A:Option Addr) (c:Nat) (l:List Fld) (ct:List Value) (g:Tree) (w:World) (F:Nat → Nat → Prop) (hl:FldsR w F A c l) (ht:TreeR w F ct g) (hD:DefP l g) :
  Calls Tryz.prog 16 #[.slice A l.length c,.agg ct.toArray] w (qck w (.bool true)):=by
 obtain ⟨xfs,h1,h2⟩:=hl.ex
 have hsm:=h1.small
 obtain ⟨n1,s2,b3,l4,u5,A6,c7,A8,c9,aG,aH,bZ,rfl,rfl,b8,cd,de,dg⟩:=ht.open_
 have bQ:=b8.small
 have bR:=cd.small
 refine enter (n:=30) Tryz.func16 rfl Tryz.ntmps16 kz fun a hE=>?_
 have hW:=WOk.start w Nil
 refine qae [0,1] kz ?_
 refine qaj (qbj hW hE (d:=3) (cs:=[.int .i64 n1,.slice A6 s2.length c7,.bool b3,.slice A8 l4.length c9,.slice aG u5.length aH]) kz fun bw dh di ce cg cm ap bx=>?_)
 refine qak [1] [] [(0,.v (.slice A l.length c)),(3,.p 0 0)] ap bx fun dj bz=>?_
 refine qag (qac ?_)
 refine wp_seq ?_
 refine qar [(3,.p 0 0),(7,.v (.slice A l.length c)),(8,.v (.int .i64 ((l.length:Nat):Int))),(9,.v (.int .i64 0))] ap bz fun dl bA=>?_
 refine wp_block ?_
 refine wp_loop_ghost (fun n_ a_ w_=>∃ (k:Nat),n_ = l.length - k ∧ k ≤ l.length ∧ LInv ap 30 [⟨bw,0,[.int .i64 n1,.slice A6 s2.length c7,.bool b3,.slice A8 l4.length c9,.slice aG u5.length aH],true⟩] [] [(3,.p 0 0),(7,.v (.slice A l.length c)),(8,.v (.int .i64 ((l.length:Nat):Int))),(9,.v (.int .i64 ((k:Nat):Int)))] a_ w_) (l.length) ⟨0,by omega,by omega,bA.pk,ap,Fr.refl _ _ _⟩ ?_
 rintro dp dq dr ⟨k,cq,cr,bB,ac,aI⟩
 refine qar [(3,.p 0 0),(7,.v (.slice A l.length c)),(8,.v (.int .i64 ((l.length:Nat):Int))),(9,.v (.int .i64 ((k:Nat):Int))),(10,.v (.bool (decide (((k:Nat):Int) < ((l.length:Nat):Int)))))] ac bB fun dt aD=>?_
 refine wp_seq ?_
 refine qaz aD (b:=decide (((k:Nat):Int) < ((l.length:Nat):Int))) kz (fun aE=>?_) (fun aE=>?_)
 ·
  have cu:=of_decide_eq_true aE
  refine wp_skip ?_
  refine qac ?_
  refine wp_seq ?_
  refine wp_block ?_
  refine qae [0,1,2,3,4,5] kz ?_
  refine qak [0] [1,2,3,4,5] [(3,.p 0 0),(7,.v (.slice A l.length c)),(8,.v (.int .i64 ((l.length:Nat):Int))),(9,.v (.int .i64 ((k:Nat):Int))),(11,.v (.int .i64 ((k:Nat):Int)))] ac aD fun du bC=>?_
  obtain ⟨cw,cz,bD,cA,ar⟩:=Slots.get h1 (i:=k) (by omega)
  obtain ⟨cB,aJ⟩:∃ x,l[k]? = some x:=⟨_,List.getElem?_eq_getElem (by omega)⟩
  have aK:=h2 k cB aJ
  obtain ⟨af,bj,bk,bn,bo,ab,bp,bq,bt,bu,cC,rfl,au,cD,dv⟩:=aK.open_
  rw [au] at aK
  have bS:=cD.small
  rw [au] at ar
  refine qaj (qas bC (t:=29) (A:=A) (m:=l.length) (q:=((k:Nat):Int)) (d:=12) kz (e:=52) (size:=8) (bytes:=80) kz bD rfl (by omega) fun dw bE=>?_)
  refine qaj (qaH bE (t:=52) (b:=cw) (o:=cz + k * 8) (d:=13) kz (cs:=[.int .i64 af,.int .i64 bj,.int .i64 bk,.int .i64 bn,.int .i64 bo,.int .i64 ab,.int .i64 bp,.slice bt bq.length bu]) (v:=.agg #[.int .i64 af,.int .i64 bj,.int .i64 bk,.int .i64 bn,.int .i64 bo,.int .i64 ab,.int .i64 bp,.slice bt bq.length bu]) kz (AtF.move ar ac.step nilM qaZ).at_ fun dx bF=>?_)
  refine qaj (qaJ ac bF (d:=6) (cs:=[.int .i64 0,.int .i64 0,.int .i64 0,.int .i64 0,.int .i64 0,.int .i64 0,.int .i64 0,.slice none 0 0]) kz fun dy dz dA cE cG aL aM bG=>?_)
  refine qak [4] [5] [(3,.p 0 0),(5,.v (.int .i64 ((k:Nat):Int))),(6,.p 1 0),(7,.v (.slice A l.length c)),(8,.v (.int .i64 ((l.length:Nat):Int))),(9,.v (.int .i64 ((k:Nat):Int))),(13,.v (.agg #[.int .i64 af,.int .i64 bj,.int .i64 bk,.int .i64 bn,.int .i64 bo,.int .i64 ab,.int .i64 bp,.slice bt bq.length bu]))] aM bG fun dB bH=>?_
  refine qaj (qan aM bH (oi:=1) (cs:=[.int .i64 af,.int .i64 bj,.int .i64 bk,.int .i64 bn,.int .i64 bo,.int .i64 ab,.int .i64 bp,.slice bt bq.length bu]) kz fun dC aN bI bJ=>?_)
  refine qag (qac ?_)
  refine qaM 15 kz bI fun dD aO ae aF=>?_
  refine qaD [0,1,2,3] [(3,.p 0 0),(5,.v (.int .i64 ((k:Nat):Int))),(6,.p 1 0),(7,.v (.slice A l.length c)),(8,.v (.int .i64 ((l.length:Nat):Int))),(9,.v (.int .i64 ((k:Nat):Int))),(17,.v (.bool (ab != 0)))] 11 (qab (qad (qab (qab (qad (qab qaf)))))) (fun _ h=>h.cells) aF bJ fun dE aP=>?_
  refine (Bool.eq_false_or_eq_true (ab != 0)).elim (fun ag=>?_) (fun ag=>?_)
  ·
   have cH:ab ≠ 0:=by simpa using ag
   have bK:=aP.cast (env':=[(3,.p 0 0),(5,.v (.int .i64 ((k:Nat):Int))),(6,.p 1 0),(7,.v (.slice A l.length c)),(8,.v (.int .i64 ((l.length:Nat):Int))),(9,.v (.int .i64 ((k:Nat):Int))),(17,.v (.bool true))]) (by rw [ag])
   refine qaD [4,5,8,9,10,11] [(3,.p 0 0),(7,.v (.slice A l.length c)),(8,.v (.int .i64 ((l.length:Nat):Int))),(9,.v (.int .i64 ((k:Nat):Int))),(17,.v (.bool true)),(18,.v (.agg #[.int .i64 n1,.slice A6 s2.length c7,.bool b3,.slice A8 l4.length c9,.slice aG u5.length aH])),(19,.v (.int .i64 ((k:Nat):Int))),(23,.v (.int .i64 af)),(25,.v (.int .i64 ab))] 5 (qab (qad (qab (qab (qad (qab qaf)))))) (fun _ h=>h.cells) aF bK fun dF bL=>?_
   refine qat (i:=6) kz (qal bL (f:=47) (vs:=[.agg #[.int .i64 n1,.slice A6 s2.length c7,.bool b3,.slice A8 l4.length c9,.slice aG u5.length aH],.int .i64 ((k:Nat):Int)]) (d:=20) kz Tryz.call47 (sAt _ _ k _ _ (ht.move ae.step nilM ae.imm)) ?_)
   rintro e_ cI ⟨bT,rfl,aQ,ah⟩
   have av:=aQ.move ah nilM (fun b o h_ hb_=>ae.laid (G:=F) ah b o (.inl h_) (Nat.lt_of_lt_of_le hb_ ah.size))
   obtain ⟨ai,cJ,cK,cL,cM,cN,cO,cP,cQ,cR,cS,bU,aR,aj,bM,bN,cT,cU⟩:=av.open_
   rw [aj] at av
   have bO:=bM.small
   have bP:=bN.small
   rw [aj]
   refine ⟨_,rfl,fun cV aS=>?_⟩
   have ak:=ae.next_nil ah
   have al:=ae.frN ah
   have hq_:=hD k _ aJ
   rw [aR] at hq_
   have aw:=TT.ofW al ak
   refine ⟨fun _=>aw,?_⟩
   refine qaD [7] [(3,.p 0 0),(7,.v (.slice A l.length c)),(8,.v (.int .i64 ((l.length:Nat):Int))),(9,.v (.int .i64 ((k:Nat):Int))),(17,.v (.bool true)),(21,.v (.int .i64 ai)),(23,.v (.int .i64 af)),(25,.v (.int .i64 ab))] 3 (qab (qad (qab (qab (qad (qab qaf)))))) (fun _ h=>h.cells) aw aS fun cW aT=>?_
   refine qat (i:=12) kz (qal aT (f:=48) (vs:=[.int .i64 af,.int .i64 ab]) (d:=26) kz Tryz.call48 (qkv af ab _) ?_)
   rintro e_ cX ⟨rfl,ax⟩
   refine ⟨_,rfl,fun cY aU=>?_⟩
   have aa:=ak.next_nil ax
   have ay:=ak.frN ax
   have az:=TT.ofW (al.trans ay) aa
   refine ⟨fun _=>az,?_⟩
   refine qaD [13,14] [(3,.p 0 0),(7,.v (.slice A l.length c)),(8,.v (.int .i64 ((l.length:Nat):Int))),(9,.v (.int .i64 ((k:Nat):Int))),(28,.v (.bool (ai != (qb6 af ab))))] 0 (qab (qad (qab (qab (qad (qab qaf)))))) (fun _ h=>h.cells) az aU fun cZ am=>?_
   refine qaB kz ?_ _
   refine qac ?_
   refine qaz am (b:=ai != (qb6 af ab)) kz (fun ao=>?_) (fun ao=>?_)
   ·
    have bV:ai ≠ (qb6 af ab):=by simpa using ao
    refine qar [(4,.v (.bool false))] aa am fun c5 aV=>?_
    refine wp_ret ?_
    refine qaQ ?_
    refine qaA ?_
    refine qaA ?_
    refine qaQ ?_
    refine qaA ?_
    refine qaP aV aa.cells (v:=.bool false) kz ?_
    exact (qlq hq_ ‹_› ‹_›).elim
   have bW:ai = (qb6 af ab):=by simpa using ao
   refine wp_skip ?_
   refine qaw ?_
   refine qac ?_
   refine qap [0,1] kz ?_
   refine qak [0,1] [] [(3,.p 0 0),(7,.v (.slice A l.length c)),(8,.v (.int .i64 ((l.length:Nat):Int))),(9,.v (.int .i64 (IntKind.i64.wrap (((k:Nat):Int) + 1))))] aa am fun c6 aW=>?_
   refine qag (qac ?_)
   obtain ⟨aA,aX,aY⟩:=aa.cutB aW 1 [⟨bw,0,[.int .i64 n1,.slice A6 s2.length c7,.bool b3,.slice A8 l4.length c9,.slice aG u5.length aH],true⟩] [(3,.p 0 0),(7,.v (.slice A l.length c)),(8,.v (.int .i64 ((l.length:Nat):Int))),(9,.v (.int .i64 (IntKind.i64.wrap (((k:Nat):Int) + 1))))]
   have aZ:IntKind.i64.wrap (((k:Nat):Int) + 1) = ((k + 1:Nat):Int):=qaS (by omega)
   rw [aZ] at aA
   exact ⟨l.length - (k + 1),by omega,k + 1,rfl,by omega,aA.pk,aX,((((((aI.trans aL).trans aN).trans aO).trans al).trans ay).trans aY)⟩
  have bX:ab = 0:=by simpa using ag
  have ba:=aP.cast (env':=[(3,.p 0 0),(5,.v (.int .i64 ((k:Nat):Int))),(6,.p 1 0),(7,.v (.slice A l.length c)),(8,.v (.int .i64 ((l.length:Nat):Int))),(9,.v (.int .i64 ((k:Nat):Int))),(17,.v (.bool false))]) (by rw [ag])
  refine qaD [4,5,6,7,8,9,10,11,12,13,14] [(3,.p 0 0),(7,.v (.slice A l.length c)),(8,.v (.int .i64 ((l.length:Nat):Int))),(9,.v (.int .i64 ((k:Nat):Int))),(28,.v (.bool false))] 0 (qab (qad (qab (qab (qad (qab qaf)))))) (fun _ h=>h.cells) aF ba fun da aB=>?_
  refine qaB kz ?_ _
  refine qac ?_
  refine qau aB (b:=false) kz rfl ?_
  refine wp_skip ?_
  refine qaw ?_
  refine qac ?_
  refine qap [0,1] kz ?_
  refine qak [0,1] [] [(3,.p 0 0),(7,.v (.slice A l.length c)),(8,.v (.int .i64 ((l.length:Nat):Int))),(9,.v (.int .i64 (IntKind.i64.wrap (((k:Nat):Int) + 1))))] ae aB fun db bd=>?_
  refine qag (qac ?_)
  obtain ⟨aC,bf,bg⟩:=ae.cutB bd 1 [⟨bw,0,[.int .i64 n1,.slice A6 s2.length c7,.bool b3,.slice A8 l4.length c9,.slice aG u5.length aH],true⟩] [(3,.p 0 0),(7,.v (.slice A l.length c)),(8,.v (.int .i64 ((l.length:Nat):Int))),(9,.v (.int .i64 (IntKind.i64.wrap (((k:Nat):Int) + 1))))]
  have bh:IntKind.i64.wrap (((k:Nat):Int) + 1) = ((k + 1:Nat):Int):=qaS (by omega)
  rw [bh] at aC
  exact ⟨l.length - (k + 1),by omega,k + 1,rfl,by omega,aC.pk,bf,((((aI.trans aL).trans aN).trans aO).trans bg)⟩
 have bY:=of_decide_eq_false aE
 refine wp_exit ?_
 refine qav ?_
 refine qav ?_
 refine qaO ?_
 refine qac ?_
 refine qar [(4,.v (.bool true))] ac aD fun dc bi=>?_
 refine wp_ret ?_
 refine qaP bi ac.cells (v:=.bool true) kz ?_
 exact ⟨rfl,ac.step⟩
def qbN (D:DV):DV:=dvP D.m D.u [D.f 0,dvN (-1),D.f 2]
theorem qe3 {v:World} {F:Nat → Nat → Prop} {D:DV} (h:qbm v F D):qbm v F (qbN D):=by
 unfold qbm at h
 obtain ⟨g0,g1,g2,t1,t2,t3,_⟩:=h
 exact ⟨g0,g1,g2,t1,t2,t3,trivial⟩
theorem qe4 (D:DV):DefP sVoteRequestF (qb0 (qbN D)):=by
 intro i f hf
 match i,hf with
 | 0,hf =>
  obtain rfl:=Option.some.inj hf
  exact .inl rfl
 | 1,hf =>
  obtain rfl:=Option.some.inj hf
  exact .inr (show IntKind.i64.wrap (-1) = qb6 3 (-1) from by decide)
 | 2,hf =>
  obtain rfl:=Option.some.inj hf
  exact .inl rfl
 | n_ + 3,hf=>exact absurd (List.getElem?_eq_some_iff.1 hf).1 (by show ¬ n_ + 3 < 3; omega)
set_option maxHeartbeats 4000000 in
theorem qfR (v:Int) (T:Tree) {A2:Option Addr} {c2:Nat} {w:World} {F:Nat → Nat → Prop} (hs_:Octs w F A2 c2 (qay (IntKind.i16.wrap v) T)) (hc:qby T) (hkey:T.ranged) (hroom:(qay (IntKind.i16.wrap v) T).length + 16 ≤ 1099511627776) :
  Calls Tryz.prog 23 #[.int .i64 v,.slice A2 (qay (IntKind.i16.wrap v) T).length c2] w (fun e w'=>∃ D cs,e = .returned (.tuple #[.agg cs.toArray,.bool true]) ∧ TreeR w' (Fp NoF w) cs (qb0 (qbN D)) ∧ Step w w' Nil):=by
 refine enter (n:=22) Tryz.func23 rfl Tryz.ntmps23 kz fun a hE=>?_
 have hW:=WOk.start w Nil
 have hsm2:=Slots.small hs_
 refine qae [0,1] kz ?_
 refine qaj (qaJ hW hE (d:=4) (cs:=[.int .i64 0,.slice none 0 0,.bool false,.slice none 0 0,.slice none 0 0]) kz fun b1 a2 w3 hb4 hz5 hF6 hW7 hE8=>?_)
 refine qak [1] [] [(0,.v (.int .i64 v)),(1,.v (.slice A2 ((qay (IntKind.i16.wrap v) T).length) c2)),(4,.p 0 0)] hW7 hE8 fun a9 bj=>?_
 refine qag (qac ?_)
 refine qae [0,1] kz ?_
 refine qaj (qbq bj (f:=56) (vs:=[]) (d:=7) (n':=3) kz Tryz.call56 Tryz.func56 rfl Tryz.ntmps56 kz fun c6 bk=>?_)
 refine qar [] hW7 bk fun da bn=>?_
 refine qae [0] kz ?_
 refine qaj (qaJ hW7 bn (d:=1) (cs:=[.int .i16 0,.pointer none,.int .i32 0,.slice none 0 0,.map none]) kz fun ab db dc cD cE cG aK bo=>?_)
 refine qag (qac ?_)
 refine qae [0] kz ?_
 refine qaj (qbq bo (f:=61) (vs:=[.pointer (some ⟨ab,0,none⟩)]) (d:=2) (n':=5) kz Tryz.call61 Tryz.func61 rfl Tryz.ntmps61 kz fun de bp=>?_)
 have bq:=bp.recast 0 (.v (.pointer (some ⟨ab,0,none⟩))) (.p 1 0) rfl rfl (Nat.le_of_ble_eq_true (n:=2) rfl)
 refine qap [0,1,2,3] kz ?_
 refine qak [0,1,2] [3] [(4,.p 1 2)] aK bq fun dg bt=>?_
 refine qaj (qan aK bt (oi:=1) (cs:=[.int .i16 0,.pointer none,.int .i32 (-1),.slice none 0 0,.map none]) kz fun dh cH ac bu=>?_)
 refine qag ?_
 refine qbu bu ac.cells (v:=.tuple #[]) kz ?_
 refine ⟨_,rfl,fun di bw=>?_⟩
 have bx:EnvOk 3 [⟨b1,0,[.int .i64 0,.slice none 0 0,.bool false,.slice none 0 0,.slice none 0 0],true⟩,⟨ab,0,[.int .i16 0,.pointer none,.int .i32 (-1),.slice none 0 0,.map none],true⟩] [(2,.v (.tuple #[])),(1,.p 1 0)] _:=bw.places (⟨rfl,rfl,⟨rfl,rfl,trivial⟩⟩)
 refine qag (qac ?_)
 refine qar [(0,.p 1 0)] ac bx fun dj bz=>?_
 refine wp_ret ?_
 refine qaP bz ac.cells (v:=.pointer (some ⟨ab,0,none⟩)) kz ?_
 refine ⟨_,rfl,fun dl bA=>?_⟩
 have bB:EnvOk 22 [⟨b1,0,[.int .i64 0,.slice none 0 0,.bool false,.slice none 0 0,.slice none 0 0],true⟩,⟨ab,0,[.int .i16 0,.pointer none,.int .i32 (-1),.slice none 0 0,.map none],true⟩] [(7,.v (.pointer (some ⟨ab,0,none⟩))),(0,.v (.int .i64 v)),(1,.v (.slice A2 ((qay (IntKind.i16.wrap v) T).length) c2)),(4,.p 0 0)] _:=bA.places (⟨rfl,rfl,trivial⟩)
 have bC:=bB.recast 7 (.v (.pointer (some ⟨ab,0,none⟩))) (.p 1 0) rfl rfl (Nat.le_of_ble_eq_true (n:=2) rfl)
 have bD:=bC.pick (ks:=[0,1,4,7]) (env':=[(0,.v (.int .i64 v)),(1,.v (.slice A2 ((qay (IntKind.i16.wrap v) T).length) c2)),(4,.p 0 0),(7,.p 1 0)]) kz
 refine qak [1] [] [(0,.v (.int .i64 v)),(1,.v (.slice A2 ((qay (IntKind.i16.wrap v) T).length) c2)),(4,.p 0 0),(6,.p 1 0)] ac bD fun dp bE=>?_
 refine qag (qac ?_)
 refine qae [0,1,2,3] kz ?_
 refine qak [0,1,2] [3] [(1,.v (.slice A2 ((qay (IntKind.i16.wrap v) T).length) c2)),(4,.p 0 0),(6,.p 1 0),(8,.p 1 0),(10,.v (.int .i16 (IntKind.i16.wrap v)))] ac bE fun dq bF=>?_
 refine qaj (qbq bF (f:=59) (vs:=[.pointer (some ⟨ab,0,none⟩),.int .i16 (IntKind.i16.wrap v)]) (d:=11) (n':=8) kz Tryz.call59 Tryz.func59 rfl Tryz.ntmps59 kz fun dr bG=>?_)
 have bH:=bG.recast 0 (.v (.pointer (some ⟨ab,0,none⟩))) (.p 1 0) rfl rfl (Nat.le_of_ble_eq_true (n:=2) rfl)
 refine qap [0,1,2,3,4] kz ?_
 refine qak [0,1,2,3] [4] [(5,.v (.int .i16 (IntKind.i16.wrap v))),(7,.p 1 0)] ac bH fun dt bI=>?_
 refine qaj (qan ac bI (oi:=1) (cs:=[.int .i16 (IntKind.i16.wrap v),.pointer none,.int .i32 (-1),.slice none 0 0,.map none]) kz fun du cI ap bJ=>?_)
 refine qag ?_
 refine qbu bJ ap.cells (v:=.tuple #[]) kz ?_
 refine ⟨_,rfl,fun dv bK=>?_⟩
 have bL:EnvOk 22 [⟨b1,0,[.int .i64 0,.slice none 0 0,.bool false,.slice none 0 0,.slice none 0 0],true⟩,⟨ab,0,[.int .i16 (IntKind.i16.wrap v),.pointer none,.int .i32 (-1),.slice none 0 0,.map none],true⟩] [(11,.v (.tuple #[])),(1,.v (.slice A2 ((qay (IntKind.i16.wrap v) T).length) c2)),(4,.p 0 0),(6,.p 1 0),(8,.p 1 0),(10,.v (.int .i16 (IntKind.i16.wrap v)))] _:=bK.places (⟨rfl,rfl,⟨rfl,rfl,trivial⟩⟩)
 refine qag (qac ?_)
 refine wp_seq ?_
 refine qae [0,1,2,3,4] kz ?_
 refine qak [0,1] [2,3,4] [(4,.p 0 0),(6,.p 1 0),(12,.p 1 0),(13,.v (.slice A2 ((qay (IntKind.i16.wrap v) T).length) c2))] ap bL fun dw bM=>?_
 have ai:=ap.addNil 5 1
 have cJ:=ap.frNil 5 1
 refine qaj (qaI ai bM (k:=0) (d:=14) (t:=22) (e:=5) (size:=1) (bytes:=1) (A:=none) (As:=A2) (m0:=0) (c:=0) (m:=((qay (IntKind.i16.wrap v) T).length)) (cs:=c2) (xs:=[]) (news:=bc (qay (IntKind.i16.wrap v) T)) kz kz rfl (hs_.move ai.step nilM ai.imm).src (hs_.move ai.step nilM ai.imm).cap (by first | omega | (simp only [List.length_nil]; omega) | (simp; omega)) fun ag ah dx dy cK bN bO=>?_)
 have bP:(⟨ag,ah,5,1,0 + (qay (IntKind.i16.wrap v) T).length,[] ++ bc (qay (IntKind.i16.wrap v) T)⟩:Rw) = brow ag ah 5 (qay (IntKind.i16.wrap v) T):=by rw [List.nil_append,Nat.zero_add]
 obtain ⟨ar,cL⟩:=bN.rowEq 0 [brow ag ah 5 (qay (IntKind.i16.wrap v) T)] bP
 have bQ:=EnvOk.pick bO (ks:=[4,6,12,13,14]) (env':=[(4,.p 0 0),(6,.p 1 0),(12,.p 1 0),(13,.v (.slice A2 ((qay (IntKind.i16.wrap v) T).length) c2)),(14,.v (.slice ag (0 + (qay (IntKind.i16.wrap v) T).length) ah))]) kz
 have bR:=bQ.cast (env':=[(4,.p 0 0),(6,.p 1 0),(12,.p 1 0),(13,.v (.slice A2 ((qay (IntKind.i16.wrap v) T).length) c2)),(14,.v (.slice ag ((qay (IntKind.i16.wrap v) T).length) ah))]) (by simp only [List.length_append,List.length_cons,List.length_nil,Nat.zero_add])
 refine qaj (qbq bR (f:=60) (vs:=[.pointer (some ⟨ab,0,none⟩),.slice ag ((qay (IntKind.i16.wrap v) T).length) ah]) (d:=15) (n':=8) kz Tryz.call60 Tryz.func60 rfl Tryz.ntmps60 kz fun dz bS=>?_)
 have bT:=bS.recast 0 (.v (.pointer (some ⟨ab,0,none⟩))) (.p 1 0) rfl rfl (Nat.le_of_ble_eq_true (n:=2) rfl)
 refine qar [(0,.p 1 0),(1,.v (.slice ag ((qay (IntKind.i16.wrap v) T).length) ah))] ar bT fun dA bU=>?_
 refine qae [0,1,2,3] kz ?_
 refine qak [0,1] [2,3] [(5,.p 1 0),(6,.v (.slice ag ((qay (IntKind.i16.wrap v) T).length) ah))] ar bU fun dB bV=>?_
 have bW:=ar.giveUp (G:=NoF) 0 [] (show _ = some (brow ag ah 5 (qay (IntKind.i16.wrap v) T)) from rfl) (by omega)
 obtain ⟨aL,cM⟩:=ar.cutR 0 []
 refine qaj (qal bV (f:=113) (vs:=[.pointer (some ⟨ab,0,none⟩),.slice ag ((qay (IntKind.i16.wrap v) T).length) ah,.bool false]) (d:=7) kz Tryz.call113 (qfN (IntKind.i16.wrap v) T (Str.of aL 1 rfl) bW (qjy 1 rfl) hc hkey) ?_)
 rintro e_ dC ⟨aa,rfl,bX,bY,cN,aM⟩
 obtain ⟨af,cO,bZ⟩:=aL.wrote 1 [⟨b1,0,[.int .i64 0,.slice none 0 0,.bool false,.slice none 0 0,.slice none 0 0],true⟩,⟨ab,0,[.int .i16 (IntKind.i16.wrap v),.pointer ((aa.f 0).A),.int .i32 ((aa.f 1).n),.slice ((aa.f 2).A) ((aa.f 2).l) ((aa.f 2).c),.map aa.m],true⟩] rfl aM bX
 have b8:=qd4 _ (Step.refl _ Nil) nilM bZ bY
 refine ⟨_,rfl,fun dD cd=>?_⟩
 have ce:=(EnvOk.places (tb':=[⟨b1,0,[.int .i64 0,.slice none 0 0,.bool false,.slice none 0 0,.slice none 0 0],true⟩,⟨ab,0,[.int .i16 (IntKind.i16.wrap v),.pointer ((aa.f 0).A),.int .i32 ((aa.f 1).n),.slice ((aa.f 2).A) ((aa.f 2).l) ((aa.f 2).c),.map aa.m],true⟩]) cd (show Pl [⟨b1,0,[.int .i64 0,.slice none 0 0,.bool false,.slice none 0 0,.slice none 0 0],true⟩,⟨ab,0,[.int .i16 (IntKind.i16.wrap v),.pointer none,.int .i32 (-1),.slice none 0 0,.map none],true⟩] [⟨b1,0,[.int .i64 0,.slice none 0 0,.bool false,.slice none 0 0,.slice none 0 0],true⟩,⟨ab,0,[.int .i16 (IntKind.i16.wrap v),.pointer ((aa.f 0).A),.int .i32 ((aa.f 1).n),.slice ((aa.f 2).A) ((aa.f 2).l) ((aa.f 2).c),.map aa.m],true⟩] from ⟨rfl,rfl,⟨rfl,rfl,trivial⟩⟩)).pk (env':=[(7,.v (.nilIface)),(5,.p 1 0),(6,.v (.slice ag ((qay (IntKind.i16.wrap v) T).length) ah))])
 refine qak [3] [] [(4,.v (.nilIface))] af ce fun dE cg=>?_
 refine qag (qac ?_)
 refine wp_ret ?_
 refine qaP cg af.cells (v:=.nilIface) kz ?_
 refine ⟨_,rfl,fun dF aN=>?_⟩
 have aO:EnvOk 22 [⟨b1,0,[.int .i64 0,.slice none 0 0,.bool false,.slice none 0 0,.slice none 0 0],true⟩,⟨ab,0,[.int .i16 (IntKind.i16.wrap v),.pointer ((aa.f 0).A),.int .i32 ((aa.f 1).n),.slice ((aa.f 2).A) ((aa.f 2).l) ((aa.f 2).c),.map aa.m],true⟩] [(15,.v (.nilIface)),(4,.p 0 0),(6,.p 1 0),(12,.p 1 0),(13,.v (.slice A2 ((qay (IntKind.i16.wrap v) T).length) c2)),(14,.v (.slice ag ((qay (IntKind.i16.wrap v) T).length) ah))] _:=aN.places (⟨rfl,rfl,⟨rfl,rfl,trivial⟩⟩)
 refine qak [4] [] [(4,.p 0 0),(6,.p 1 0),(16,.v (.bool false))] af aO fun cP au=>?_
 refine qag (qac ?_)
 refine qau au (b:=false) kz rfl ?_
 refine wp_skip ?_
 refine qac ?_
 refine qae [0,1] kz ?_
 refine qak [0] [1] [(4,.p 0 0),(6,.p 1 0),(18,.p 1 0)] af au fun cQ aP=>?_
 refine qaj (qbq aP (f:=61) (vs:=[.pointer (some ⟨ab,0,none⟩)]) (d:=19) (n':=5) kz Tryz.call61 Tryz.func61 rfl Tryz.ntmps61 kz fun cR aQ=>?_)
 have aR:=aQ.recast 0 (.v (.pointer (some ⟨ab,0,none⟩))) (.p 1 0) rfl rfl (Nat.le_of_ble_eq_true (n:=2) rfl)
 refine qap [0,1,2,3] kz ?_
 refine qak [0,1,2] [3] [(4,.p 1 2)] af aR fun cS aS=>?_
 refine qaj (qan af aS (oi:=1) (cs:=[.int .i16 (IntKind.i16.wrap v),.pointer ((aa.f 0).A),.int .i32 (-1),.slice ((aa.f 2).A) ((aa.f 2).l) ((aa.f 2).c),.map aa.m]) kz fun cT av ae aT=>?_)
 refine qag ?_
 refine qbu aT ae.cells (v:=.tuple #[]) kz ?_
 refine ⟨_,rfl,fun cU aU=>?_⟩
 have aV:EnvOk 22 [⟨b1,0,[.int .i64 0,.slice none 0 0,.bool false,.slice none 0 0,.slice none 0 0],true⟩,⟨ab,0,[.int .i16 (IntKind.i16.wrap v),.pointer ((aa.f 0).A),.int .i32 (-1),.slice ((aa.f 2).A) ((aa.f 2).l) ((aa.f 2).c),.map aa.m],true⟩] [(19,.v (.tuple #[])),(4,.p 0 0),(6,.p 1 0),(18,.p 1 0)] _:=aU.places (⟨rfl,rfl,⟨rfl,rfl,trivial⟩⟩)
 refine qag (qac ?_)
 refine qae [0,1,2,3] kz ?_
 refine qak [0] [1,2,3] [(4,.p 0 0),(20,.p 1 0)] ae aV fun cV aW=>?_
 have aX:=aW.recast 20 (.p 1 0) (.v (.pointer (some ⟨ab,0,none⟩))) rfl rfl trivial
 have aY:=aX.pk (env':=[(4,.p 0 0),(20,.v (.pointer (some ⟨ab,0,none⟩)))])
 have ay:=WOk.strOut (G:=NoF) [⟨b1,0,[.int .i64 0,.slice none 0 0,.bool false,.slice none 0 0,.slice none 0 0],true⟩] ae
 obtain ⟨aZ,aj,aw⟩:=ae.cutB aY 1 [⟨b1,0,[.int .i64 0,.slice none 0 0,.bool false,.slice none 0 0,.slice none 0 0],true⟩] [(4,.p 0 0),(20,.v (.pointer (some ⟨ab,0,none⟩)))]
 have ba:=qe3 (qd4 _ (av.trans aw).step immM (av.trans aw).to' b8)
 refine qaj (qal aZ (f:=62) (vs:=[.pointer (some ⟨ab,0,none⟩)]) (d:=21) kz Tryz.call62 (qfQ (IntKind.i16.wrap v) (qbN aa) ab 0 _ _ ay ba) ?_)
 rintro e_ cW ⟨cz,rfl,bd,ak⟩
 have al:=bd.move (Step.refl _ Nil) nilM (aj.laid (G:=NoF) ak)
 obtain ⟨az,aA,aB,aC,aD,aE,aF,aG,aH,aI,aJ,cA,cB,am,cm,cq,cX,cY⟩:=al.open_
 rw [am] at al
 have cr:=cm.small
 have cu:=cq.small
 rw [am]
 refine ⟨_,rfl,fun cZ bf=>?_⟩
 have bg:=aj.next_nil ak
 have cC:=aj.frN ak
 refine qaj (qan bg bf (oi:=0) (cs:=[.int .i64 az,.slice aE aA.length aF,.bool aB,.slice aG aC.length aH,.slice aI aD.length aJ]) kz fun cw ax ao bh=>?_)
 refine qak [3] [] [(4,.p 0 0),(5,.v (.bool true))] ao bh fun c5 bi=>?_
 refine qag (qac ?_)
 refine wp_ret ?_
 refine qaP bi ao.cells (v:=.tuple #[.agg #[.int .i64 az,.slice aE aA.length aF,.bool aB,.slice aG aC.length aH,.slice aI aD.length aJ],.bool true]) kz ?_
 exact ⟨aa,_,rfl,(show TreeR _ (Imm NoF w cw [⟨b1,0,[.int .i64 az,.slice aE aA.length aF,.bool aB,.slice aG aC.length aH,.slice aI aD.length aJ],true⟩] []) _ (qb0 (qbN aa)) from (al.move ax.step immM ax.to')).move (Step.refl _ Nil) nilM qbp,ao.step⟩
theorem qe5 (v:Int) (T:Tree) (B:Bs) {A2:Option Addr} {c2:Nat} {w:World} {F:Nat → Nat → Prop} (hB:qay (IntKind.i16.wrap v) T = B) (hs_:Octs w F A2 c2 B) (hc:qby T) (hkey:T.ranged) (hroom:B.length + 16 ≤ 1099511627776) :
  Calls Tryz.prog 23 #[.int .i64 v,.slice A2 B.length c2] w (fun e w'=>∃ D cs,e = .returned (.tuple #[.agg cs.toArray,.bool true]) ∧ TreeR w' (Fp NoF w) cs (qb0 (qbN D)) ∧ Step w w' Nil):=by
 subst hB
 exact qfR v T hs_ hc hkey hroom
theorem qgv (w:World):Calls Tryz.prog 21 #[] w (qck w (.int .i64 2)):=by
 refine enter (n:=4) Tryz.func21 rfl Tryz.ntmps21 kz fun a hE=>?_
 have hW:=WOk.start w Nil
 refine qar [] hW hE fun a1 hE2=>?_
 refine qae [0,1,2,3] kz ?_
 refine qaj (qbq hE2 (f:=56) (vs:=[]) (d:=1) (n':=3) kz Tryz.call56 Tryz.func56 rfl Tryz.ntmps56 kz fun a3 hE4=>?_)
 refine qar [] hW hE4 fun a5 hE6=>?_
 refine qae [0] kz ?_
 refine qaj (qaJ hW hE6 (d:=1) (cs:=[.int .i16 0,.pointer none,.int .i32 0,.slice none 0 0,.map none]) kz fun b7 a8 w9 aA aB aC ab ac=>?_)
 refine qag (qac ?_)
 refine qae [0] kz ?_
 refine qaj (qbq ac (f:=61) (vs:=[.pointer (some ⟨b7,0,none⟩)]) (d:=2) (n':=5) kz Tryz.call61 Tryz.func61 rfl Tryz.ntmps61 kz fun aE ae=>?_)
 have af:=ae.recast 0 (.v (.pointer (some ⟨b7,0,none⟩))) (.p 0 0) rfl rfl (Nat.le_of_ble_eq_true (n:=1) rfl)
 refine qap [0,1,2,3] kz ?_
 refine qak [0,1,2] [3] [(4,.p 0 2)] ab af fun aF ag=>?_
 refine qaj (qan ab ag (oi:=0) (cs:=[.int .i16 0,.pointer none,.int .i32 (-1),.slice none 0 0,.map none]) kz fun aG aD aa ah=>?_)
 refine qag ?_
 refine qbu ah aa.cells (v:=.tuple #[]) kz ?_
 refine ⟨_,rfl,fun aH ai=>?_⟩
 have aj:EnvOk 3 [⟨b7,0,[.int .i16 0,.pointer none,.int .i32 (-1),.slice none 0 0,.map none],true⟩] [(2,.v (.tuple #[])),(1,.p 0 0)] _:=ai.places (⟨rfl,rfl,trivial⟩)
 refine qag (qac ?_)
 refine qar [(0,.p 0 0)] aa aj fun aI ak=>?_
 refine wp_ret ?_
 refine qaP ak aa.cells (v:=.pointer (some ⟨b7,0,none⟩)) kz ?_
 refine ⟨_,rfl,fun aJ al=>?_⟩
 have am:EnvOk 4 [⟨b7,0,[.int .i16 0,.pointer none,.int .i32 (-1),.slice none 0 0,.map none],true⟩] [(1,.v (.pointer (some ⟨b7,0,none⟩)))] _:=al.places (trivial)
 have ao:=am.recast 1 (.v (.pointer (some ⟨b7,0,none⟩))) (.p 0 0) rfl rfl (Nat.le_of_ble_eq_true (n:=1) rfl)
 have ap:=ao.pick (ks:=[1]) (env':=[(1,.p 0 0)]) kz
 refine qaj (qbq ap (f:=57) (vs:=[.pointer (some ⟨b7,0,none⟩)]) (d:=2) (n':=3) kz Tryz.call57 Tryz.func57 rfl Tryz.ntmps57 kz fun aK ar=>?_)
 have au:=ar.recast 0 (.v (.pointer (some ⟨b7,0,none⟩))) (.p 0 0) rfl rfl (Nat.le_of_ble_eq_true (n:=1) rfl)
 refine qar [] aa au fun aL av=>?_
 refine qar [(2,.v (.int .i16 2))] aa av fun aM aw=>?_
 refine wp_ret ?_
 refine qaP aw aa.cells (v:=.int .i16 2) kz ?_
 refine ⟨_,rfl,fun aN ax=>?_⟩
 have ay:EnvOk 4 [⟨b7,0,[.int .i16 0,.pointer none,.int .i32 (-1),.slice none 0 0,.map none],true⟩] [(2,.v (.int .i16 2)),(1,.p 0 0)] _:=ax.places (⟨rfl,rfl,trivial⟩)
 refine qak [2,3] [] [(0,.v (.int .i64 2))] aa ay fun aO az=>?_
 refine qag (qac ?_)
 refine wp_ret ?_
 refine qaP az aa.cells (v:=.int .i64 2) kz ?_
 exact ⟨rfl,aa.step⟩
theorem qd6:depths sVoteRequestF ≤ 8:=by simp [sVoteRequestF,Fld.depth.depths,Fld.depth]
set_option maxHeartbeats 4000000 in
theorem qe6 (x:Int) (hx:0 ≤ x) (hx':x < 256) (ct:List Value) (t:Tree) (w:World) (F:Nat → Nat → Prop) (ht:TreeR w F ct t) (hroom1:(qcu 8 sVoteRequestF qa3 (Int.tmod x (2 + 1)) t).length + 16 ≤ 1099511627776) (hcan:qby (fitT (Int.tmod x (2 + 1)) 8 sVoteRequestF t)) (hkey:Tree.ranged (fitT (Int.tmod x (2 + 1)) 8 sVoteRequestF t)) (hpure:qay (IntKind.i16.wrap (Int.tmod x (2 + 1))) (fitT (Int.tmod x (2 + 1)) 8 sVoteRequestF t) = qcu 8 sVoteRequestF qa3 (Int.tmod x (2 + 1)) t) :
  Calls Tryz.prog 5 #[.int .u8 x,.agg ct.toArray] w (qck w (.bool true)):=by
 obtain ⟨n1,s2,b3,l4,u5,A6,c7,A8,c9,aU,aV,cX,rfl,rfl,cY,cZ,dJ,dK⟩:=ht.open_
 have cI:=cY.small
 have cJ:=cZ.small
 refine enter (n:=37) Tryz.func5 rfl Tryz.ntmps5 kz fun a hE=>?_
 have hW:=WOk.start w Nil
 refine qae [0,1] kz ?_
 refine qaj (qbj hW hE (d:=3) (cs:=[.int .i64 n1,.slice A6 s2.length c7,.bool b3,.slice A8 l4.length c9,.slice aU u5.length aV]) kz fun c5 dL dM c6 da db am bD=>?_)
 refine qak [1] [] [(0,.v (.int .u8 x)),(3,.p 0 0)] am bD fun dN bE=>?_
 refine qag (qac ?_)
 refine wp_seq ?_
 refine qae [0,1,2] kz ?_
 refine qak [0] [1,2] [(0,.v (.int .u8 x)),(3,.p 0 0),(10,.v (.agg #[.int .i64 n1,.slice A6 s2.length c7,.bool b3,.slice A8 l4.length c9,.slice aU u5.length aV]))] am bE fun dO bF=>?_
 refine qaj (qal bF (f:=10) (vs:=[.agg #[.int .i64 n1,.slice A6 s2.length c7,.bool b3,.slice A8 l4.length c9,.slice aU u5.length aV]]) (d:=11) kz Tryz.call10 (qk3 _ _ _ _ (ht.move am.step nilM am.imm)) ?_)
 rintro e_ dP ⟨cK,rfl,aY⟩
 refine ⟨_,rfl,fun dQ bG=>?_⟩
 have ao:=am.next_nil aY
 have dc:=am.frN aY
 refine qak [2] [] [(0,.v (.int .u8 x)),(3,.p 0 0),(12,.v (.bool (!cK)))] ao bG fun dR aR=>?_
 refine qag (qac ?_)
 refine qaz aR (b:=!cK) kz (fun bH=>?_) (fun bH=>?_)
 ·
  refine qar [(4,.v (.bool true))] ao aR fun dS bI=>?_
  refine wp_ret ?_
  refine qaA ?_
  refine qaP bI ao.cells (v:=.bool true) kz ?_
  exact ⟨rfl,ao.step⟩
 refine wp_skip ?_
 refine qac ?_
 refine qae [0,1] kz ?_
 refine qaj (qal aR (f:=21) (vs:=[]) (d:=13) kz Tryz.call21 (qgv _) ?_)
 rintro e_ de ⟨rfl,aZ⟩
 refine ⟨_,rfl,fun dT bJ=>?_⟩
 have ap:=ao.next_nil aZ
 have dg:=ao.frN aZ
 refine qak [1] [] [(0,.v (.int .u8 x)),(3,.p 0 0),(5,.v (.int .i64 2))] ap bJ fun dU bK=>?_
 refine qag (qac ?_)
 refine wp_seq ?_
 refine qar [(0,.v (.int .u8 x)),(3,.p 0 0),(5,.v (.int .i64 2)),(15,.v (.bool false))] ap bK fun dV ba=>?_
 refine qau ba (b:=false) kz rfl ?_
 refine wp_skip ?_
 refine qac ?_
 refine qae [0,1,2,3,4,5,6] kz ?_
 refine qaj (qal ba (f:=22) (vs:=[]) (d:=16) kz Tryz.call22 (qgp _ (Imm F w de [⟨c5,0,[.int .i64 n1,.slice A6 s2.length c7,.bool b3,.slice A8 l4.length c9,.slice aU u5.length aV],true⟩] [])) ?_)
 rintro e_ dW ⟨aW,aX,rfl,bL,aS⟩
 obtain ⟨bd,cL,cM⟩:=bL.move (Step.refl _ Nil) nilM (ap.laid (G:=F) aS)
 refine ⟨_,rfl,fun dX bM=>?_⟩
 have aT:=ap.next_nil aS
 have dh:=ap.frN aS
 refine qak [1,2] [3,4,5,6] [(3,.p 0 0),(16,.v (.agg #[.slice aW sVoteRequestF.length aX,.int .i64 qa3])),(17,.v (.int .u8 x)),(18,.v (.int .i64 2))] aT bM fun dY bN=>?_
 refine qaj (qal bN (f:=13) (vs:=[.int .u8 x,.int .i64 2]) (d:=19) kz Tryz.call13 (qjD x 2 hx hx' (by decide) (by decide) _) ?_)
 rintro e_ dZ ⟨rfl,bf⟩
 refine ⟨_,rfl,fun d5 bO=>?_⟩
 have bP:=aT.next_nil bf
 have af:=aT.frN bf
 refine qaj (qaJ bP bO (d:=6) (cs:=[.slice none 0 0,.int .i64 0]) kz fun d6 d7 d8 di dj ag bQ bR=>?_)
 refine qaj (qan bQ bR (oi:=1) (cs:=[.slice aW sVoteRequestF.length aX,.int .i64 qa3]) kz fun d9 ah ar bS=>?_)
 refine qak [6] [] [(3,.p 0 0),(6,.p 1 0),(7,.v (.int .i64 (Int.tmod x (2 + 1))))] ar bS fun ea bT=>?_
 refine qag (qac ?_)
 refine qae [0,1,2,3,4,5,6,7,8,9,10,11] kz ?_
 refine qak [0,1,2,3] [4,5,6,7,8,9,10,11] [(6,.p 1 0),(21,.v (.int .i64 (Int.tmod x (2 + 1)))),(22,.v (.agg #[.slice aW sVoteRequestF.length aX,.int .i64 qa3])),(23,.v (.int .i64 (Int.tmod x (2 + 1)))),(24,.v (.agg #[.int .i64 n1,.slice A6 s2.length c7,.bool b3,.slice A8 l4.length c9,.slice aU u5.length aV]))] ar bT fun eb bU=>?_
 refine qaj (qal bU (f:=15) (vs:=[.agg #[.slice aW sVoteRequestF.length aX,.int .i64 qa3],.int .i64 (Int.tmod x (2 + 1)),.agg #[.int .i64 n1,.slice A6 s2.length c7,.bool b3,.slice A8 l4.length c9,.slice aU u5.length aV]]) (d:=25) kz Tryz.call15 (qkP _ _ sVoteRequestF qa3 (Int.tmod x (2 + 1)) _ (Tree.mk n1 s2 b3 l4 u5) _ _ ⟨bd,(cL.move ((af.trans ag).trans ah).step immM ((af.trans ag).trans ah).to'),(fun i_ x_ h_=>((cM i_ x_ h_).move ((af.trans ag).trans ah).step immM ((af.trans ag).trans ah).to'))⟩ qd6 (ht.move ar.step nilM ar.imm) (Nat.le_trans (Nat.le_add_right _ _) hroom1)) ?_)
 rintro e_ ec ⟨cN,cO,rfl,bV,bW⟩
 refine ⟨_,rfl,fun ee bX=>?_⟩
 obtain ⟨ai,aj⟩:=ar.frFresh bW (brow cN cO 5 (qcu 8 sVoteRequestF qa3 (Int.tmod x (2 + 1)) (Tree.mk n1 s2 b3 l4 u5))) (Nat.le_refl _) bV
 refine qaj (qal bX (f:=23) (vs:=[.int .i64 (Int.tmod x (2 + 1)),.slice cN ((qcu 8 sVoteRequestF qa3 (Int.tmod x (2 + 1)) (Tree.mk n1 s2 b3 l4 u5)).length) cO]) (d:=26) kz Tryz.call23 (qe5 (Int.tmod x (2 + 1)) _ (qcu 8 sVoteRequestF qa3 (Int.tmod x (2 + 1)) (Tree.mk n1 s2 b3 l4 u5)) hpure (qcV (ai.own 0 _ rfl) (by first | omega | (rw [qb7]; decide) | (simp only [be_length]; exact Nat.le_trans (qbT _) (by decide)) | (have:=hroom; omega) | (have:=hmade; omega) | (simp only [List.length_append,List.length_nil]; omega)) (F:=fun _ _=>True) (fun _ _ _=>trivial)) hcan hkey (by first | omega | (have:=hroom1; omega))) ?_)
 rintro e_ dl ⟨bg,cP,rfl,bh,au⟩
 have av:=bh.move (Step.refl _ Nil) nilM (fun b_ o_ h_ hb_=>ai.laid (G:=F) au b_ o_ (.inr (h_.resolve_left id)) hb_)
 obtain ⟨aC,aD,aE,aF,aG,aH,aI,aJ,aK,aL,aM,cQ,cR,aw,bY,bZ,dp,dq⟩:=av.open_
 rw [aw] at av
 have b8:=bY.small
 have cd:=bZ.small
 rw [aw]
 refine ⟨_,rfl,fun dr bi=>?_⟩
 have aN:=ai.next_nil au
 have ak:=ai.frN au
 refine qak [6,7,8] [9,10,11] [(6,.p 1 0),(27,.v (.agg #[.int .i64 aC,.slice aH aD.length aI,.bool aE,.slice aJ aF.length aK,.slice aL aG.length aM])),(28,.v (.bool true))] aN bi fun dt bj=>?_
 refine qaj (qaJ aN bj (d:=8) (cs:=[.int .i64 0,.slice none 0 0,.bool false,.slice none 0 0,.slice none 0 0]) kz fun du dv dw cS cT aa bk bn=>?_)
 refine qaj (qan bk bn (oi:=2) (cs:=[.int .i64 aC,.slice aH aD.length aI,.bool aE,.slice aJ aF.length aK,.slice aL aG.length aM]) kz fun dx ab aO bo=>?_)
 refine qak [11] [] [(6,.p 1 0),(8,.p 2 0),(9,.v (.bool true))] aO bo fun dy bp=>?_
 refine qag (qac ?_)
 refine qaM 8 kz aO fun dz ac ax bq=>?_
 refine qaD [0,1,2,3,4] [(30,.v (.bool true)),(32,.v (.slice aW sVoteRequestF.length aX)),(33,.v (.agg #[.int .i64 aC,.slice aH aD.length aI,.bool aE,.slice aJ aF.length aK,.slice aL aG.length aM]))] 4 (qab qaf) (fun _ h=>h.cells) bq bp fun dA bt=>?_
 refine qat (i:=5) kz (qal bt (f:=17) (vs:=[.agg #[.int .i64 aC,.slice aH aD.length aI,.bool aE,.slice aJ aF.length aK,.slice aL aG.length aM]]) (d:=34) kz Tryz.call17 (lGot _ _ _ _ _ (av.move ((aa.trans ab).trans ac).step immM ((aa.trans ab).trans ac).to') (Nat.le_refl _)) ?_)
 rintro e_ dB ⟨cU,rfl,bu,ay⟩
 have az:=bu.move (Step.refl _ Nil) nilM (ax.laid (G:=F) ay)
 obtain ⟨ce,cg,cm,cq,cr,cu,cw,cz,cA,cB,cC,cV,cW,aA,cD,cE,dC,dD⟩:=az.open_
 rw [aA] at az
 have cG:=cD.small
 have cH:=cE.small
 rw [aA]
 refine ⟨_,rfl,fun dE bw=>?_⟩
 have aB:=ax.next_nil ay
 have ae:=ax.frN ay
 have bx:=TT.ofW ae aB
 refine ⟨fun _=>bx,?_⟩
 refine qat (i:=6) kz (qal bw (f:=16) (vs:=[.slice aW sVoteRequestF.length aX,.agg #[.int .i64 ce,.slice cu cg.length cw,.bool cm,.slice cz cq.length cA,.slice cB cr.length cC]]) (d:=35) kz Tryz.call16 (qi7 _ _ sVoteRequestF _ (qb0 (qbN bg)) _ _ ⟨bd,(cL.move ((((((((af.trans ag).trans ah).trans aj).trans ak).trans aa).trans ab).trans ac).trans ae).step immM ((((((((af.trans ag).trans ah).trans aj).trans ak).trans aa).trans ab).trans ac).trans ae).to'),(fun i_ x_ h_=>((cM i_ x_ h_).move ((((((((af.trans ag).trans ah).trans aj).trans ak).trans aa).trans ab).trans ac).trans ae).step immM ((((((((af.trans ag).trans ah).trans aj).trans ak).trans aa).trans ab).trans ac).trans ae).to'))⟩ az (qe4 bg)) ?_)
 rintro e_ dF ⟨rfl,aP⟩
 refine ⟨_,rfl,fun dG bz=>?_⟩
 have al:=aB.next_nil aP
 have bA:=aB.frN aP
 have aQ:=TT.ofW (ae.trans bA) al
 refine ⟨fun _=>aQ,?_⟩
 refine qaD [7] [(36,.v (.bool true))] 1 (qab qaf) (fun _ h=>h.cells) aQ bz fun dH bB=>?_
 refine qat (i:=8) kz (qbv [4] al.cells bB (env':=[(4,.v (.bool true))]) kz fun dI bC=>?_)
 refine ⟨fun h=>absurd rfl h,?_⟩
 refine qaB kz ?_ _
 refine qac ?_
 refine wp_ret ?_
 refine qaP bC al.cells (v:=.bool true) kz ?_
 exact ⟨rfl,al.step⟩
theorem qep (x:Int) (hx:0 ≤ x ∧ x ≤ 255) (ct:List Value) (t:Tree) (w:World) (F:Nat → Nat → Prop) (ht:TreeR w F ct t) (hi:t.i64s) (hsz:t.size ≤ 8388608):Calls Tryz.prog 5 #[.int .u8 x,.agg ct.toArray] w (qck w (.bool true)):=by
 obtain ⟨g0,g1⟩:=qkJ (m:=2 + 1) hx.1 hx.2 (by decide) (by decide)
 have hp:qay (IntKind.i16.wrap (Int.tmod x (2 + 1))) (fitT (Int.tmod x (2 + 1)) 8 sVoteRequestF t) = qcu 8 sVoteRequestF qa3 (Int.tmod x (2 + 1)) t:=by rw [qiy g0 g1]; exact qeT (Int.tmod x (2 + 1)) g0 g1 t
 have h1:=qiG 8 sVoteRequestF qa3 (Int.tmod x (2 + 1)) t
 have h2:qgN sVoteRequestF ≤ 131000:=by decide +kernel
 have h3:=Nat.mul_le_mul h2 hsz
 exact qe6 x hx.1 (by omega) ct t w F ht (by omega) (qee (Int.tmod x (2 + 1)) t) (qhM _ _ _ _ ht.ranged) hp
end Go.Proofs.YtcbpjflgkefidaaGreatDoor.ME