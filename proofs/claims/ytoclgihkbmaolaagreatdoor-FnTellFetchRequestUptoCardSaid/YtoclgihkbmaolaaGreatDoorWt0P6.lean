/- Packed. Own work. -/
import Derived.Test.YtoclgihkbmaolaaGreatDoorWt0P5
namespace Go.Proofs.YtoclgihkbmaolaaGreatDoor.ME
open Go
open Go.RowKit
set_option linter.unusedVariables false
set_option linter.unusedSimpArgs false
set_option maxRecDepth 20000
theorem NX (v:Int) (h0:0 ≤ v) (t Y:Tree) (hY:∀ i,Y.at_ i = (D2 v 7 [(Fld.mk 3 0 (-1) (-1) (-1) (-1) 0 []),(Fld.mk 4 0 (-1) (-1) (-1) (-1) 0 [])] t).at_ i) (hU:Y.U = (D2 v 7 [(Fld.mk 3 0 (-1) (-1) (-1) (-1) 0 []),(Fld.mk 4 0 (-1) (-1) (-1) (-1) 0 [])] t).U) (hi:t.i64s) (D:DV) (h:CE v D Y):Bo v (decide (v ≥ H6)) 7 [(Fld.mk 3 0 (-1) (-1) (-1) (-1) 0 []),(Fld.mk 4 0 (-1) (-1) (-1) (-1) 0 [])] t (Fi D):=by
 unfold CE at h
 obtain ⟨r0,r1,rU,_⟩:=h
 refine ⟨rfl,fun i f y hf hy=>?_,?_⟩
 ·match i,hf,hy with
  | 0,hf,hy =>
   obtain rfl:=Option.some.inj hf
   obtain rfl:=Option.some.inj hy
   have e:=hY 0
   refine ⟨fun hp=>?_,fun hp=>?_⟩
   ·have hc:True:=trivial
    have r:=r0
    rw [e] at r
    rw [(J6 (v:=v) (d:=6) (t:=t) (show [(Fld.mk 3 0 (-1) (-1) (-1) (-1) 0 []),(Fld.mk 4 0 (-1) (-1) (-1) (-1) 0 [])][0]? = _ from rfl) (by decide))] at r
    exact Q1 (by rw [r,P1]; rfl)
   rw [J3] at hp; simp at hp; omega
  | 1,hf,hy =>
   obtain rfl:=Option.some.inj hf
   obtain rfl:=Option.some.inj hy
   have e:=hY 1
   refine ⟨fun hp=>?_,fun hp=>?_⟩
   ·have hc:True:=trivial
    have r:=r1
    rw [e] at r
    rw [(J6 (v:=v) (d:=6) (t:=t) (show [(Fld.mk 3 0 (-1) (-1) (-1) (-1) 0 []),(Fld.mk 4 0 (-1) (-1) (-1) (-1) 0 [])][1]? = _ from rfl) (by decide))] at r
    exact Q1 (by rw [r,Fj (Bu hi 1)]; rfl)
   rw [J3] at hp; simp at hp; omega
  | n_ + 2,hf,hy=>exact absurd (List.getElem?_eq_some_iff.1 hf).1 (by show ¬ n_ + 2 < 2; omega)
 show D.u = if (decide (v ≥ H6)) = true then N5 (C4 [(Fld.mk 3 0 (-1) (-1) (-1) (-1) 0 []),(Fld.mk 4 0 (-1) (-1) (-1) (-1) 0 [])] t.U) else []
 by_cases hc:(decide (v ≥ 12)) = true
 ·rw [if_pos (show (decide (v ≥ H6)) = true from hc),rU.1 hc,hU,S6]
 rw [if_neg (show ¬ (decide (v ≥ H6)) = true from hc),rU.2 (by simpa using hc)]
theorem NY (v:Int) (h0:0 ≤ v) (t Y:Tree) (hY:∀ i,Y.at_ i = (D2 v 6 [(Fld.mk 3 0 (-1) (-1) (-1) 0 0 []),(Fld.mk 3 9 (-1) (-1) (-1) (-1) 0 []),(Fld.mk 4 0 (-1) (-1) (-1) 0 0 []),(Fld.mk 3 12 (-1) (-1) (-1) (-1) 0 []),(Fld.mk 4 5 (-1) (-1) (-1) (-1) 0 []),(Fld.mk 3 0 (-1) (-1) (-1) 0 0 []),(Fld.mk 7 0 (-1) (-1) 0 0 0 []),(Fld.mk 4 0 (-1) (-1) 1 9223372036854775807 0 [])] t).at_ i) (hU:Y.U = (D2 v 6 [(Fld.mk 3 0 (-1) (-1) (-1) 0 0 []),(Fld.mk 3 9 (-1) (-1) (-1) (-1) 0 []),(Fld.mk 4 0 (-1) (-1) (-1) 0 0 []),(Fld.mk 3 12 (-1) (-1) (-1) (-1) 0 []),(Fld.mk 4 5 (-1) (-1) (-1) (-1) 0 []),(Fld.mk 3 0 (-1) (-1) (-1) 0 0 []),(Fld.mk 7 0 (-1) (-1) 0 0 0 []),(Fld.mk 4 0 (-1) (-1) 1 9223372036854775807 0 [])] t).U) (hi:t.i64s) (D:DV) (h:CF v D Y):Bo v (decide (v ≥ H6)) 6 [(Fld.mk 3 0 (-1) (-1) (-1) 0 0 []),(Fld.mk 3 9 (-1) (-1) (-1) (-1) 0 []),(Fld.mk 4 0 (-1) (-1) (-1) 0 0 []),(Fld.mk 3 12 (-1) (-1) (-1) (-1) 0 []),(Fld.mk 4 5 (-1) (-1) (-1) (-1) 0 []),(Fld.mk 3 0 (-1) (-1) (-1) 0 0 []),(Fld.mk 7 0 (-1) (-1) 0 0 0 []),(Fld.mk 4 0 (-1) (-1) 1 9223372036854775807 0 [])] t (Bq D):=by
 unfold CF at h
 obtain ⟨r0,r1,r2,r3,r4,r5,r6,r7,rU,_⟩:=h
 refine ⟨rfl,fun i f y hf hy=>?_,?_⟩
 ·match i,hf,hy with
  | 0,hf,hy =>
   obtain rfl:=Option.some.inj hf
   obtain rfl:=Option.some.inj hy
   have e:=hY 0
   refine ⟨fun hp=>?_,fun hp=>?_⟩
   ·have hc:True:=trivial
    have r:=r0
    rw [e] at r
    rw [(J6 (v:=v) (d:=5) (t:=t) (show [(Fld.mk 3 0 (-1) (-1) (-1) 0 0 []),(Fld.mk 3 9 (-1) (-1) (-1) (-1) 0 []),(Fld.mk 4 0 (-1) (-1) (-1) 0 0 []),(Fld.mk 3 12 (-1) (-1) (-1) (-1) 0 []),(Fld.mk 4 5 (-1) (-1) (-1) (-1) 0 []),(Fld.mk 3 0 (-1) (-1) (-1) 0 0 []),(Fld.mk 7 0 (-1) (-1) 0 0 0 []),(Fld.mk 4 0 (-1) (-1) 1 9223372036854775807 0 [])][0]? = _ from rfl) (by decide))] at r
    exact Q1 (by rw [r,P1]; rfl)
   rw [J3] at hp; simp at hp; omega
  | 1,hf,hy =>
   obtain rfl:=Option.some.inj hf
   obtain rfl:=Option.some.inj hy
   have e:=hY 1
   refine ⟨fun hp=>?_,fun hp=>?_⟩
   ·have hc:(decide (v ≥ 9)) = true:=by rw [J3] at hp; simp at hp ⊢; try omega
    have r:=(r1.1 hc)
    rw [e] at r
    rw [(J6 (v:=v) (d:=5) (t:=t) (show [(Fld.mk 3 0 (-1) (-1) (-1) 0 0 []),(Fld.mk 3 9 (-1) (-1) (-1) (-1) 0 []),(Fld.mk 4 0 (-1) (-1) (-1) 0 0 []),(Fld.mk 3 12 (-1) (-1) (-1) (-1) 0 []),(Fld.mk 4 5 (-1) (-1) (-1) (-1) 0 []),(Fld.mk 3 0 (-1) (-1) (-1) 0 0 []),(Fld.mk 7 0 (-1) (-1) 0 0 0 []),(Fld.mk 4 0 (-1) (-1) 1 9223372036854775807 0 [])][1]? = _ from rfl) (by decide))] at r
    exact Q1 (by rw [r,P1]; rfl)
   have hc:(decide (v ≥ 9)) = false:=by rw [J3] at hp; simp at hp ⊢; try omega
   have r:=(r1.2 hc)
   exact us_num' (by rw [r]; first | rfl | decide)
  | 2,hf,hy =>
   obtain rfl:=Option.some.inj hf
   obtain rfl:=Option.some.inj hy
   have e:=hY 2
   refine ⟨fun hp=>?_,fun hp=>?_⟩
   ·have hc:True:=trivial
    have r:=r2
    rw [e] at r
    rw [(J6 (v:=v) (d:=5) (t:=t) (show [(Fld.mk 3 0 (-1) (-1) (-1) 0 0 []),(Fld.mk 3 9 (-1) (-1) (-1) (-1) 0 []),(Fld.mk 4 0 (-1) (-1) (-1) 0 0 []),(Fld.mk 3 12 (-1) (-1) (-1) (-1) 0 []),(Fld.mk 4 5 (-1) (-1) (-1) (-1) 0 []),(Fld.mk 3 0 (-1) (-1) (-1) 0 0 []),(Fld.mk 7 0 (-1) (-1) 0 0 0 []),(Fld.mk 4 0 (-1) (-1) 1 9223372036854775807 0 [])][2]? = _ from rfl) (by decide))] at r
    exact Q1 (by rw [r,Fj (Bu hi 2)]; rfl)
   rw [J3] at hp; simp at hp; omega
  | 3,hf,hy =>
   obtain rfl:=Option.some.inj hf
   obtain rfl:=Option.some.inj hy
   have e:=hY 3
   refine ⟨fun hp=>?_,fun hp=>?_⟩
   ·have hc:(decide (v ≥ 12)) = true:=by rw [J3] at hp; simp at hp ⊢; try omega
    have r:=(r3.1 hc)
    rw [e] at r
    rw [(J6 (v:=v) (d:=5) (t:=t) (show [(Fld.mk 3 0 (-1) (-1) (-1) 0 0 []),(Fld.mk 3 9 (-1) (-1) (-1) (-1) 0 []),(Fld.mk 4 0 (-1) (-1) (-1) 0 0 []),(Fld.mk 3 12 (-1) (-1) (-1) (-1) 0 []),(Fld.mk 4 5 (-1) (-1) (-1) (-1) 0 []),(Fld.mk 3 0 (-1) (-1) (-1) 0 0 []),(Fld.mk 7 0 (-1) (-1) 0 0 0 []),(Fld.mk 4 0 (-1) (-1) 1 9223372036854775807 0 [])][3]? = _ from rfl) (by decide))] at r
    exact Q1 (by rw [r,P1]; rfl)
   have hc:(decide (v ≥ 12)) = false:=by rw [J3] at hp; simp at hp ⊢; try omega
   have r:=(r3.2 hc)
   exact us_num' (by rw [r]; first | rfl | decide)
  | 4,hf,hy =>
   obtain rfl:=Option.some.inj hf
   obtain rfl:=Option.some.inj hy
   have e:=hY 4
   refine ⟨fun hp=>?_,fun hp=>?_⟩
   ·have hc:(decide (v ≥ 5)) = true:=by rw [J3] at hp; simp at hp ⊢; try omega
    have r:=(r4.1 hc)
    rw [e] at r
    rw [(J6 (v:=v) (d:=5) (t:=t) (show [(Fld.mk 3 0 (-1) (-1) (-1) 0 0 []),(Fld.mk 3 9 (-1) (-1) (-1) (-1) 0 []),(Fld.mk 4 0 (-1) (-1) (-1) 0 0 []),(Fld.mk 3 12 (-1) (-1) (-1) (-1) 0 []),(Fld.mk 4 5 (-1) (-1) (-1) (-1) 0 []),(Fld.mk 3 0 (-1) (-1) (-1) 0 0 []),(Fld.mk 7 0 (-1) (-1) 0 0 0 []),(Fld.mk 4 0 (-1) (-1) 1 9223372036854775807 0 [])][4]? = _ from rfl) (by decide))] at r
    exact Q1 (by rw [r,Fj (Bu hi 4)]; rfl)
   have hc:(decide (v ≥ 5)) = false:=by rw [J3] at hp; simp at hp ⊢; try omega
   have r:=(r4.2 hc)
   exact us_num' (by rw [r]; first | rfl | decide)
  | 5,hf,hy =>
   obtain rfl:=Option.some.inj hf
   obtain rfl:=Option.some.inj hy
   have e:=hY 5
   refine ⟨fun hp=>?_,fun hp=>?_⟩
   ·have hc:True:=trivial
    have r:=r5
    rw [e] at r
    rw [(J6 (v:=v) (d:=5) (t:=t) (show [(Fld.mk 3 0 (-1) (-1) (-1) 0 0 []),(Fld.mk 3 9 (-1) (-1) (-1) (-1) 0 []),(Fld.mk 4 0 (-1) (-1) (-1) 0 0 []),(Fld.mk 3 12 (-1) (-1) (-1) (-1) 0 []),(Fld.mk 4 5 (-1) (-1) (-1) (-1) 0 []),(Fld.mk 3 0 (-1) (-1) (-1) 0 0 []),(Fld.mk 7 0 (-1) (-1) 0 0 0 []),(Fld.mk 4 0 (-1) (-1) 1 9223372036854775807 0 [])][5]? = _ from rfl) (by decide))] at r
    exact Q1 (by rw [r,P1]; rfl)
   rw [J3] at hp; simp at hp; omega
  | 6,hf,hy =>
   obtain rfl:=Option.some.inj hf
   obtain rfl:=Option.some.inj hy
   have e:=hY 6
   have r:=r6
   rw [e] at r
   have hq:G7 Y = !Fld.usual (Fld.mk 7 0 (-1) (-1) 0 0 0 []) (t.at_ 6):=by
    unfold G7
    rw [e]
    rw [BF (v:=v) (d:=5) (t:=t) (show [(Fld.mk 3 0 (-1) (-1) (-1) 0 0 []),(Fld.mk 3 9 (-1) (-1) (-1) (-1) 0 []),(Fld.mk 4 0 (-1) (-1) (-1) 0 0 []),(Fld.mk 3 12 (-1) (-1) (-1) (-1) 0 []),(Fld.mk 4 5 (-1) (-1) (-1) (-1) 0 []),(Fld.mk 3 0 (-1) (-1) (-1) 0 0 []),(Fld.mk 7 0 (-1) (-1) 0 0 0 []),(Fld.mk 4 0 (-1) (-1) 1 9223372036854775807 0 [])][6]? = _ from rfl) (by decide)]
    simp [Fld.usual]
   refine ⟨fun hp=>?_,fun hp=>?_⟩
   ·rw [Bv (by decide)] at hp
    have r:=(r.1 (Fk hq hp))
    exact Hd r (BF (v:=v) (d:=5) (t:=t) (show [(Fld.mk 3 0 (-1) (-1) (-1) 0 0 []),(Fld.mk 3 9 (-1) (-1) (-1) (-1) 0 []),(Fld.mk 4 0 (-1) (-1) (-1) 0 0 []),(Fld.mk 3 12 (-1) (-1) (-1) (-1) 0 []),(Fld.mk 4 5 (-1) (-1) (-1) (-1) 0 []),(Fld.mk 3 0 (-1) (-1) (-1) 0 0 []),(Fld.mk 7 0 (-1) (-1) 0 0 0 []),(Fld.mk 4 0 (-1) (-1) 1 9223372036854775807 0 [])][6]? = _ from rfl) (by decide))
   rw [Bv (by decide)] at hp
   have r:=(r.2 (Fl hq hp))
   exact us_uuid' r
  | 7,hf,hy =>
   obtain rfl:=Option.some.inj hf
   obtain rfl:=Option.some.inj hy
   have e:=hY 7
   have r:=r7
   rw [e] at r
   have hq:F5 Y = !Fld.usual z8 (t.at_ 7):=by
    unfold F5
    rw [e]
    rw [J6 (v:=v) (d:=5) (t:=t) (show [(Fld.mk 3 0 (-1) (-1) (-1) 0 0 []),(Fld.mk 3 9 (-1) (-1) (-1) (-1) 0 []),(Fld.mk 4 0 (-1) (-1) (-1) 0 0 []),(Fld.mk 3 12 (-1) (-1) (-1) (-1) 0 []),(Fld.mk 4 5 (-1) (-1) (-1) (-1) 0 []),(Fld.mk 3 0 (-1) (-1) (-1) 0 0 []),(Fld.mk 7 0 (-1) (-1) 0 0 0 []),(Fld.mk 4 0 (-1) (-1) 1 9223372036854775807 0 [])][7]? = _ from rfl) (by decide)]
    simp [Fld.usual,I5]
   refine ⟨fun hp=>?_,fun hp=>?_⟩
   ·rw [Bv (by decide)] at hp
    have r:=(r.1 (Fk hq hp))
    rw [(J6 (v:=v) (d:=5) (t:=t) (show [(Fld.mk 3 0 (-1) (-1) (-1) 0 0 []),(Fld.mk 3 9 (-1) (-1) (-1) (-1) 0 []),(Fld.mk 4 0 (-1) (-1) (-1) 0 0 []),(Fld.mk 3 12 (-1) (-1) (-1) (-1) 0 []),(Fld.mk 4 5 (-1) (-1) (-1) (-1) 0 []),(Fld.mk 3 0 (-1) (-1) (-1) 0 0 []),(Fld.mk 7 0 (-1) (-1) 0 0 0 []),(Fld.mk 4 0 (-1) (-1) 1 9223372036854775807 0 [])][7]? = _ from rfl) (by decide))] at r
    exact Q1 (by rw [r,Fj (Bu hi 7)]; rfl)
   rw [Bv (by decide)] at hp
   have r:=(r.2 (Fl hq hp))
   exact us_num' (by rw [r]; first | rfl | decide)
  | n_ + 8,hf,hy=>exact absurd (List.getElem?_eq_some_iff.1 hf).1 (by show ¬ n_ + 8 < 8; omega)
 show D.u = if (decide (v ≥ H6)) = true then N5 (C4 [(Fld.mk 3 0 (-1) (-1) (-1) 0 0 []),(Fld.mk 3 9 (-1) (-1) (-1) (-1) 0 []),(Fld.mk 4 0 (-1) (-1) (-1) 0 0 []),(Fld.mk 3 12 (-1) (-1) (-1) (-1) 0 []),(Fld.mk 4 5 (-1) (-1) (-1) (-1) 0 []),(Fld.mk 3 0 (-1) (-1) (-1) 0 0 []),(Fld.mk 7 0 (-1) (-1) 0 0 0 []),(Fld.mk 4 0 (-1) (-1) 1 9223372036854775807 0 [])] t.U) else []
 by_cases hc:(decide (v ≥ 12)) = true
 ·rw [if_pos (show (decide (v ≥ H6)) = true from hc),rU.1 hc,hU,S6]
 rw [if_neg (show ¬ (decide (v ≥ H6)) = true from hc),rU.2 (by simpa using hc)]
theorem NZ (v:Int) (h0:0 ≤ v) (t Y:Tree) (hY:∀ i,Y.at_ i = (D2 v 7 [(Fld.mk 8 0 12 (-1) (-1) 0 0 []),(Fld.mk 7 13 (-1) (-1) (-1) 0 0 []),(Fld.mk 11 0 (-1) (-1) (-1) 0 10 [(Fld.mk 3 0 (-1) (-1) (-1) 0 0 []),(Fld.mk 3 9 (-1) (-1) (-1) (-1) 0 []),(Fld.mk 4 0 (-1) (-1) (-1) 0 0 []),(Fld.mk 3 12 (-1) (-1) (-1) (-1) 0 []),(Fld.mk 4 5 (-1) (-1) (-1) (-1) 0 []),(Fld.mk 3 0 (-1) (-1) (-1) 0 0 []),(Fld.mk 7 0 (-1) (-1) 0 0 0 []),(Fld.mk 4 0 (-1) (-1) 1 9223372036854775807 0 [])])] t).at_ i) (hU:Y.U = (D2 v 7 [(Fld.mk 8 0 12 (-1) (-1) 0 0 []),(Fld.mk 7 13 (-1) (-1) (-1) 0 0 []),(Fld.mk 11 0 (-1) (-1) (-1) 0 10 [(Fld.mk 3 0 (-1) (-1) (-1) 0 0 []),(Fld.mk 3 9 (-1) (-1) (-1) (-1) 0 []),(Fld.mk 4 0 (-1) (-1) (-1) 0 0 []),(Fld.mk 3 12 (-1) (-1) (-1) (-1) 0 []),(Fld.mk 4 5 (-1) (-1) (-1) (-1) 0 []),(Fld.mk 3 0 (-1) (-1) (-1) 0 0 []),(Fld.mk 7 0 (-1) (-1) 0 0 0 []),(Fld.mk 4 0 (-1) (-1) 1 9223372036854775807 0 [])])] t).U) (hi:t.i64s) (D:DV) (h:CG v D Y):Bo v (decide (v ≥ H6)) 7 [(Fld.mk 8 0 12 (-1) (-1) 0 0 []),(Fld.mk 7 13 (-1) (-1) (-1) 0 0 []),(Fld.mk 11 0 (-1) (-1) (-1) 0 10 [(Fld.mk 3 0 (-1) (-1) (-1) 0 0 []),(Fld.mk 3 9 (-1) (-1) (-1) (-1) 0 []),(Fld.mk 4 0 (-1) (-1) (-1) 0 0 []),(Fld.mk 3 12 (-1) (-1) (-1) (-1) 0 []),(Fld.mk 4 5 (-1) (-1) (-1) (-1) 0 []),(Fld.mk 3 0 (-1) (-1) (-1) 0 0 []),(Fld.mk 7 0 (-1) (-1) 0 0 0 []),(Fld.mk 4 0 (-1) (-1) 1 9223372036854775807 0 [])])] t (Br D):=by
 unfold CG at h
 obtain ⟨r0,r1,r2,rU,_⟩:=h
 refine ⟨rfl,fun i f y hf hy=>?_,?_⟩
 ·match i,hf,hy with
  | 0,hf,hy =>
   obtain rfl:=Option.some.inj hf
   obtain rfl:=Option.some.inj hy
   have e:=hY 0
   refine ⟨fun hp=>?_,fun hp=>?_⟩
   ·have hc:((if (decide (v ≥ 0)) = true then decide (v ≤ 12) else false)) = true:=by rw [J3] at hp; simp at hp ⊢; try omega
    have r:=(r0.1 hc)
    rw [e] at r
    exact Hc r (Y6 (v:=v) (d:=6) (t:=t) (show [(Fld.mk 8 0 12 (-1) (-1) 0 0 []),(Fld.mk 7 13 (-1) (-1) (-1) 0 0 []),(Fld.mk 11 0 (-1) (-1) (-1) 0 10 [(Fld.mk 3 0 (-1) (-1) (-1) 0 0 []),(Fld.mk 3 9 (-1) (-1) (-1) (-1) 0 []),(Fld.mk 4 0 (-1) (-1) (-1) 0 0 []),(Fld.mk 3 12 (-1) (-1) (-1) (-1) 0 []),(Fld.mk 4 5 (-1) (-1) (-1) (-1) 0 []),(Fld.mk 3 0 (-1) (-1) (-1) 0 0 []),(Fld.mk 7 0 (-1) (-1) 0 0 0 []),(Fld.mk 4 0 (-1) (-1) 1 9223372036854775807 0 [])])][0]? = _ from rfl) (by decide))
   have hc:((if (decide (v ≥ 0)) = true then decide (v ≤ 12) else false)) = false:=by rw [J3] at hp; simp at hp ⊢; try omega
   have r:=(r0.2 hc)
   exact us_text' r
  | 1,hf,hy =>
   obtain rfl:=Option.some.inj hf
   obtain rfl:=Option.some.inj hy
   have e:=hY 1
   refine ⟨fun hp=>?_,fun hp=>?_⟩
   ·have hc:(decide (v ≥ 13)) = true:=by rw [J3] at hp; simp at hp ⊢; try omega
    have r:=(r1.1 hc)
    rw [e] at r
    exact Hd r (BF (v:=v) (d:=6) (t:=t) (show [(Fld.mk 8 0 12 (-1) (-1) 0 0 []),(Fld.mk 7 13 (-1) (-1) (-1) 0 0 []),(Fld.mk 11 0 (-1) (-1) (-1) 0 10 [(Fld.mk 3 0 (-1) (-1) (-1) 0 0 []),(Fld.mk 3 9 (-1) (-1) (-1) (-1) 0 []),(Fld.mk 4 0 (-1) (-1) (-1) 0 0 []),(Fld.mk 3 12 (-1) (-1) (-1) (-1) 0 []),(Fld.mk 4 5 (-1) (-1) (-1) (-1) 0 []),(Fld.mk 3 0 (-1) (-1) (-1) 0 0 []),(Fld.mk 7 0 (-1) (-1) 0 0 0 []),(Fld.mk 4 0 (-1) (-1) 1 9223372036854775807 0 [])])][1]? = _ from rfl) (by decide))
   have hc:(decide (v ≥ 13)) = false:=by rw [J3] at hp; simp at hp ⊢; try omega
   have r:=(r1.2 hc)
   exact us_uuid' r
  | 2,hf,hy =>
   obtain rfl:=Option.some.inj hf
   obtain rfl:=Option.some.inj hy
   have e:=hY 2
   refine ⟨fun hp=>?_,fun hp=>?_⟩
   ·have hc:True:=trivial
    have r:=r2
    rw [e] at r
    obtain ⟨fn_,fl⟩:=W6 (v:=v) (d:=6) (t:=t) (show [(Fld.mk 8 0 12 (-1) (-1) 0 0 []),(Fld.mk 7 13 (-1) (-1) (-1) 0 0 []),(Fld.mk 11 0 (-1) (-1) (-1) 0 10 [(Fld.mk 3 0 (-1) (-1) (-1) 0 0 []),(Fld.mk 3 9 (-1) (-1) (-1) (-1) 0 []),(Fld.mk 4 0 (-1) (-1) (-1) 0 0 []),(Fld.mk 3 12 (-1) (-1) (-1) (-1) 0 []),(Fld.mk 4 5 (-1) (-1) (-1) (-1) 0 []),(Fld.mk 3 0 (-1) (-1) (-1) 0 0 []),(Fld.mk 7 0 (-1) (-1) 0 0 0 []),(Fld.mk 4 0 (-1) (-1) 1 9223372036854775807 0 [])])][2]? = _ from rfl)
    refine Fn (fun h_=>absurd h_.1 (by decide)) r.1 fl fun i_ y_ hi_ hg_ hy_=>?_
    have q:=r.2 i_ hi_
    rw [hg_] at q
    exact Fm rfl (NY v h0 y_ _ (fun i=>fit_10.1 i) fit_10.2 (Hb (Bu hi 2) hy_) _ q)
   rw [J3] at hp; simp at hp; omega
  | n_ + 3,hf,hy=>exact absurd (List.getElem?_eq_some_iff.1 hf).1 (by show ¬ n_ + 3 < 3; omega)
 show D.u = if (decide (v ≥ H6)) = true then N5 (C4 [(Fld.mk 8 0 12 (-1) (-1) 0 0 []),(Fld.mk 7 13 (-1) (-1) (-1) 0 0 []),(Fld.mk 11 0 (-1) (-1) (-1) 0 10 [(Fld.mk 3 0 (-1) (-1) (-1) 0 0 []),(Fld.mk 3 9 (-1) (-1) (-1) (-1) 0 []),(Fld.mk 4 0 (-1) (-1) (-1) 0 0 []),(Fld.mk 3 12 (-1) (-1) (-1) (-1) 0 []),(Fld.mk 4 5 (-1) (-1) (-1) (-1) 0 []),(Fld.mk 3 0 (-1) (-1) (-1) 0 0 []),(Fld.mk 7 0 (-1) (-1) 0 0 0 []),(Fld.mk 4 0 (-1) (-1) 1 9223372036854775807 0 [])])] t.U) else []
 by_cases hc:(decide (v ≥ 12)) = true
 ·rw [if_pos (show (decide (v ≥ H6)) = true from hc),rU.1 hc,hU,S6]
 rw [if_neg (show ¬ (decide (v ≥ H6)) = true from hc),rU.2 (by simpa using hc)]
theorem Pa (v:Int) (h0:0 ≤ v) (t Y:Tree) (hY:∀ i,Y.at_ i = (D2 v 7 [(Fld.mk 8 7 12 (-1) (-1) 0 0 []),(Fld.mk 7 13 (-1) (-1) (-1) 0 0 []),(Fld.mk 11 0 (-1) (-1) (-1) 0 3 [])] t).at_ i) (hU:Y.U = (D2 v 7 [(Fld.mk 8 7 12 (-1) (-1) 0 0 []),(Fld.mk 7 13 (-1) (-1) (-1) 0 0 []),(Fld.mk 11 0 (-1) (-1) (-1) 0 3 [])] t).U) (hi:t.i64s) (D:DV) (h:BU v D Y):Bo v (decide (v ≥ H6)) 7 [(Fld.mk 8 7 12 (-1) (-1) 0 0 []),(Fld.mk 7 13 (-1) (-1) (-1) 0 0 []),(Fld.mk 11 0 (-1) (-1) (-1) 0 3 [])] t (Bt D):=by
 unfold BU at h
 obtain ⟨r0,r1,r2,rU,_⟩:=h
 refine ⟨rfl,fun i f y hf hy=>?_,?_⟩
 ·match i,hf,hy with
  | 0,hf,hy =>
   obtain rfl:=Option.some.inj hf
   obtain rfl:=Option.some.inj hy
   have e:=hY 0
   refine ⟨fun hp=>?_,fun hp=>?_⟩
   ·have hc:((if (decide (v ≥ 7)) = true then decide (v ≤ 12) else false)) = true:=by rw [J3] at hp; simp at hp ⊢; try omega
    have r:=(r0.1 hc)
    rw [e] at r
    exact Hc r (Y6 (v:=v) (d:=6) (t:=t) (show [(Fld.mk 8 7 12 (-1) (-1) 0 0 []),(Fld.mk 7 13 (-1) (-1) (-1) 0 0 []),(Fld.mk 11 0 (-1) (-1) (-1) 0 3 [])][0]? = _ from rfl) (by decide))
   have hc:((if (decide (v ≥ 7)) = true then decide (v ≤ 12) else false)) = false:=by rw [J3] at hp; simp at hp ⊢; try omega
   have r:=(r0.2 hc)
   exact us_text' r
  | 1,hf,hy =>
   obtain rfl:=Option.some.inj hf
   obtain rfl:=Option.some.inj hy
   have e:=hY 1
   refine ⟨fun hp=>?_,fun hp=>?_⟩
   ·have hc:(decide (v ≥ 13)) = true:=by rw [J3] at hp; simp at hp ⊢; try omega
    have r:=(r1.1 hc)
    rw [e] at r
    exact Hd r (BF (v:=v) (d:=6) (t:=t) (show [(Fld.mk 8 7 12 (-1) (-1) 0 0 []),(Fld.mk 7 13 (-1) (-1) (-1) 0 0 []),(Fld.mk 11 0 (-1) (-1) (-1) 0 3 [])][1]? = _ from rfl) (by decide))
   have hc:(decide (v ≥ 13)) = false:=by rw [J3] at hp; simp at hp ⊢; try omega
   have r:=(r1.2 hc)
   exact us_uuid' r
  | 2,hf,hy =>
   obtain rfl:=Option.some.inj hf
   obtain rfl:=Option.some.inj hy
   have e:=hY 2
   refine ⟨fun hp=>?_,fun hp=>?_⟩
   ·have hc:True:=trivial
    have r:=r2
    rw [e] at r
    obtain ⟨fn_,fl⟩:=W6 (v:=v) (d:=6) (t:=t) (show [(Fld.mk 8 7 12 (-1) (-1) 0 0 []),(Fld.mk 7 13 (-1) (-1) (-1) 0 0 []),(Fld.mk 11 0 (-1) (-1) (-1) 0 3 [])][2]? = _ from rfl)
    refine Fn (fun h_=>absurd h_.1 (by decide)) r.1 fl fun i_ y_ hi_ hg_ hy_=>?_
    have q:=r.2 i_ hi_
    rw [hg_] at q
    exact Kc (by rw [q,P1]; cases y_; simp [N2,Fld.kind,Tree.N,L8])
   rw [J3] at hp; simp at hp; omega
  | n_ + 3,hf,hy=>exact absurd (List.getElem?_eq_some_iff.1 hf).1 (by show ¬ n_ + 3 < 3; omega)
 show D.u = if (decide (v ≥ H6)) = true then N5 (C4 [(Fld.mk 8 7 12 (-1) (-1) 0 0 []),(Fld.mk 7 13 (-1) (-1) (-1) 0 0 []),(Fld.mk 11 0 (-1) (-1) (-1) 0 3 [])] t.U) else []
 by_cases hc:(decide (v ≥ 12)) = true
 ·rw [if_pos (show (decide (v ≥ H6)) = true from hc),rU.1 hc,hU,S6]
 rw [if_neg (show ¬ (decide (v ≥ H6)) = true from hc),rU.2 (by simpa using hc)]
theorem Pb (v:Int) (h0:0 ≤ v) (t Y:Tree) (hY:∀ i,Y.at_ i = (D2 v 8 sFetchRequestF t).at_ i) (hU:Y.U = (D2 v 8 sFetchRequestF t).U) (hi:t.i64s) (D:DV) (h:BV v D Y):Bo v (decide (v ≥ H6)) 8 sFetchRequestF t (BZ D):=by
 unfold BV at h
 obtain ⟨r0,r1,r2,r3,r4,r5,r6,r7,r8,r9,aa,ab,rU,_⟩:=h
 refine ⟨rfl,fun i f y hf hy=>?_,?_⟩
 ·match i,hf,hy with
  | 0,hf,hy =>
   obtain rfl:=Option.some.inj hf
   obtain rfl:=Option.some.inj hy
   have e:=hY 0
   have r:=r0
   rw [e] at r
   have hq:(!((D2 v 8 sFetchRequestF t).at_ 0).null) = !Fld.usual (Fld.mk 8 0 (-1) 0 0 0 0 []) (t.at_ 0):=by rw [(Er (v:=v) (d:=7) (t:=t) (show sFetchRequestF[0]? = _ from rfl) (by decide)).2,Gk h0]; simp [Fld.usual]
   refine ⟨fun hp=>?_,fun hp=>?_⟩
   ·rw [Bv (by decide)] at hp
    have r:=(r.1 (Fk hq hp))
    exact NV r (Er (v:=v) (d:=7) (t:=t) (show sFetchRequestF[0]? = _ from rfl) (by decide))
   rw [Bv (by decide)] at hp
   have r:=(r.2 (Fl hq hp))
   exact us_textN' r
  | 1,hf,hy =>
   obtain rfl:=Option.some.inj hf
   obtain rfl:=Option.some.inj hy
   have e:=hY 1
   refine ⟨fun hp=>?_,fun hp=>?_⟩
   ·have hc:((if (decide (v ≥ 0)) = true then decide (v ≤ 14) else false)) = true:=by rw [J3] at hp; simp at hp ⊢; try omega
    have r:=(r1.1 hc)
    rw [e] at r
    rw [(J6 (v:=v) (d:=7) (t:=t) (show sFetchRequestF[1]? = _ from rfl) (by decide))] at r
    exact Q1 (by rw [r,P1]; rfl)
   have hc:((if (decide (v ≥ 0)) = true then decide (v ≤ 14) else false)) = false:=by rw [J3] at hp; simp at hp ⊢; try omega
   have r:=(r1.2 hc)
   exact us_num' (by rw [r]; first | rfl | decide)
  | 2,hf,hy =>
   obtain rfl:=Option.some.inj hf
   obtain rfl:=Option.some.inj hy
   have e:=hY 2
   have r:=r2
   rw [e] at r
   have hq:F0 Y = !Fld.usual (Fld.mk 10 0 (-1) (-1) 1 0 0 [(Fld.mk 3 0 (-1) (-1) (-1) (-1) 0 []),(Fld.mk 4 0 (-1) (-1) (-1) (-1) 0 [])]) (t.at_ 2):=by
    unfold F0
    rw [e]
    obtain ⟨fa,fu,fn⟩:=Dl (v:=v) (d:=7) (t:=t) (show sFetchRequestF[2]? = _ from rfl)
    rw [fu]
    simp only [fa,J6 (v:=v) (d:=6) (l:=[(Fld.mk 3 0 (-1) (-1) (-1) (-1) 0 []),(Fld.mk 4 0 (-1) (-1) (-1) (-1) 0 [])]) (t:=t.at_ 2) (i:=0) rfl (by decide),J6 (v:=v) (d:=6) (l:=[(Fld.mk 3 0 (-1) (-1) (-1) (-1) 0 []),(Fld.mk 4 0 (-1) (-1) (-1) (-1) 0 [])]) (t:=t.at_ 2) (i:=1) rfl (by decide),S6,Y3]
    simp [Fld.usual,Fld.usual.usuals,I5,Bool.and_assoc]
   refine ⟨fun hp=>?_,fun hp=>?_⟩
   ·rw [Bv (by decide)] at hp
    have r:=(r.1 (Fk hq hp))
    obtain ⟨fa,fu,fn⟩:=Dl (v:=v) (d:=7) (t:=t) (show sFetchRequestF[2]? = _ from rfl)
    exact ⟨Fm rfl (NX v h0 (t.at_ 2) _ fa fu (Bu hi 2) _ r),fun h=>absurd (show (10:Int) = 11 from h) (by decide)⟩
   rw [Bv (by decide)] at hp
   have r:=(r.2 (Fl hq hp))
   exact us_part' ⟨r.2.2,fun i_ f_ hf_=>match i_,hf_ with | 0,hf_=>by obtain rfl:=Option.some.inj hf_; exact us_num' (by rw [r.1]; first | rfl | decide) | 1,hf_=>by obtain rfl:=Option.some.inj hf_; exact us_num' (by rw [r.2.1]; first | rfl | decide) | n_ + 2,hf_=>absurd (List.getElem?_eq_some_iff.1 hf_).1 (by show ¬ n_ + 2 < 2; omega)⟩
  | 3,hf,hy =>
   obtain rfl:=Option.some.inj hf
   obtain rfl:=Option.some.inj hy
   have e:=hY 3
   refine ⟨fun hp=>?_,fun hp=>?_⟩
   ·have hc:True:=trivial
    have r:=r3
    rw [e] at r
    rw [(J6 (v:=v) (d:=7) (t:=t) (show sFetchRequestF[3]? = _ from rfl) (by decide))] at r
    exact Q1 (by rw [r,P1]; rfl)
   rw [J3] at hp; simp at hp; omega
  | 4,hf,hy =>
   obtain rfl:=Option.some.inj hf
   obtain rfl:=Option.some.inj hy
   have e:=hY 4
   refine ⟨fun hp=>?_,fun hp=>?_⟩
   ·have hc:True:=trivial
    have r:=r4
    rw [e] at r
    rw [(J6 (v:=v) (d:=7) (t:=t) (show sFetchRequestF[4]? = _ from rfl) (by decide))] at r
    exact Q1 (by rw [r,P1]; rfl)
   rw [J3] at hp; simp at hp; omega
  | 5,hf,hy =>
   obtain rfl:=Option.some.inj hf
   obtain rfl:=Option.some.inj hy
   have e:=hY 5
   refine ⟨fun hp=>?_,fun hp=>?_⟩
   ·have hc:(decide (v ≥ 3)) = true:=by rw [J3] at hp; simp at hp ⊢; try omega
    have r:=(r5.1 hc)
    rw [e] at r
    rw [(J6 (v:=v) (d:=7) (t:=t) (show sFetchRequestF[5]? = _ from rfl) (by decide))] at r
    exact Q1 (by rw [r,P1]; rfl)
   have hc:(decide (v ≥ 3)) = false:=by rw [J3] at hp; simp at hp ⊢; try omega
   have r:=(r5.2 hc)
   exact us_num' (by rw [r]; first | rfl | decide)
  | 6,hf,hy =>
   obtain rfl:=Option.some.inj hf
   obtain rfl:=Option.some.inj hy
   have e:=hY 6
   refine ⟨fun hp=>?_,fun hp=>?_⟩
   ·have hc:(decide (v ≥ 4)) = true:=by rw [J3] at hp; simp at hp ⊢; try omega
    have r:=(r6.1 hc)
    rw [e] at r
    rw [(J6 (v:=v) (d:=7) (t:=t) (show sFetchRequestF[6]? = _ from rfl) (by decide))] at r
    exact Q1 (by rw [r,BY]; rfl)
   have hc:(decide (v ≥ 4)) = false:=by rw [J3] at hp; simp at hp ⊢; try omega
   have r:=(r6.2 hc)
   exact us_num' (by rw [r]; first | rfl | decide)
  | 7,hf,hy =>
   obtain rfl:=Option.some.inj hf
   obtain rfl:=Option.some.inj hy
   have e:=hY 7
   refine ⟨fun hp=>?_,fun hp=>?_⟩
   ·have hc:(decide (v ≥ 7)) = true:=by rw [J3] at hp; simp at hp ⊢; try omega
    have r:=(r7.1 hc)
    rw [e] at r
    rw [(J6 (v:=v) (d:=7) (t:=t) (show sFetchRequestF[7]? = _ from rfl) (by decide))] at r
    exact Q1 (by rw [r,P1]; rfl)
   have hc:(decide (v ≥ 7)) = false:=by rw [J3] at hp; simp at hp ⊢; try omega
   have r:=(r7.2 hc)
   exact us_num' (by rw [r]; first | rfl | decide)
  | 8,hf,hy =>
   obtain rfl:=Option.some.inj hf
   obtain rfl:=Option.some.inj hy
   have e:=hY 8
   refine ⟨fun hp=>?_,fun hp=>?_⟩
   ·have hc:(decide (v ≥ 7)) = true:=by rw [J3] at hp; simp at hp ⊢; try omega
    have r:=(r8.1 hc)
    rw [e] at r
    rw [(J6 (v:=v) (d:=7) (t:=t) (show sFetchRequestF[8]? = _ from rfl) (by decide))] at r
    exact Q1 (by rw [r,P1]; rfl)
   have hc:(decide (v ≥ 7)) = false:=by rw [J3] at hp; simp at hp ⊢; try omega
   have r:=(r8.2 hc)
   exact us_num' (by rw [r]; first | rfl | decide)
  | 9,hf,hy =>
   obtain rfl:=Option.some.inj hf
   obtain rfl:=Option.some.inj hy
   have e:=hY 9
   refine ⟨fun hp=>?_,fun hp=>?_⟩
   ·have hc:True:=trivial
    have r:=r9
    rw [e] at r
    obtain ⟨fn_,fl⟩:=W6 (v:=v) (d:=7) (t:=t) (show sFetchRequestF[9]? = _ from rfl)
    refine Fn (fun h_=>absurd h_.1 (by decide)) r.1 fl fun i_ y_ hi_ hg_ hy_=>?_
    have q:=r.2 i_ hi_
    rw [hg_] at q
    exact Fm rfl (NZ v h0 y_ _ (fun i=>fit_10.1 i) fit_10.2 (Hb (Bu hi 9) hy_) _ q)
   rw [J3] at hp; simp at hp; omega
  | 10,hf,hy =>
   obtain rfl:=Option.some.inj hf
   obtain rfl:=Option.some.inj hy
   have e:=hY 10
   refine ⟨fun hp=>?_,fun hp=>?_⟩
   ·have hc:(decide (v ≥ 7)) = true:=by rw [J3] at hp; simp at hp ⊢; try omega
    have r:=(aa.1 hc)
    rw [e] at r
    obtain ⟨fn_,fl⟩:=W6 (v:=v) (d:=7) (t:=t) (show sFetchRequestF[10]? = _ from rfl)
    refine Fn (fun h_=>absurd h_.1 (by decide)) r.1 fl fun i_ y_ hi_ hg_ hy_=>?_
    have q:=r.2 i_ hi_
    rw [hg_] at q
    exact Fm rfl (Pa v h0 y_ _ (fun i=>fit_10.1 i) fit_10.2 (Hb (Bu hi 10) hy_) _ q)
   have hc:(decide (v ≥ 7)) = false:=by rw [J3] at hp; simp at hp ⊢; try omega
   have r:=(aa.2 hc)
   exact us_list' r.2
  | 11,hf,hy =>
   obtain rfl:=Option.some.inj hf
   obtain rfl:=Option.some.inj hy
   have e:=hY 11
   refine ⟨fun hp=>?_,fun hp=>?_⟩
   ·have hc:(decide (v ≥ 11)) = true:=by rw [J3] at hp; simp at hp ⊢; try omega
    have r:=(ab.1 hc)
    rw [e] at r
    exact Hc r (Y6 (v:=v) (d:=7) (t:=t) (show sFetchRequestF[11]? = _ from rfl) (by decide))
   have hc:(decide (v ≥ 11)) = false:=by rw [J3] at hp; simp at hp ⊢; try omega
   have r:=(ab.2 hc)
   exact us_text' r
  | n_ + 12,hf,hy=>exact absurd (List.getElem?_eq_some_iff.1 hf).1 (by show ¬ n_ + 12 < 12; omega)
 show D.u = if (decide (v ≥ H6)) = true then N5 (C4 sFetchRequestF t.U) else []
 by_cases hc:(decide (v ≥ 12)) = true
 ·rw [if_pos (show (decide (v ≥ H6)) = true from hc),rU.1 hc,hU,S6]
 rw [if_neg (show ¬ (decide (v ≥ H6)) = true from hc),rU.2 (by simpa using hc)]
set_option maxHeartbeats 4000000 in
theorem Pc (v:Int) (T:Tree) {A2:Option Addr} {c2:Nat} {w:World} {F:Nat → Nat → Prop} (hs_:Octs w F A2 c2 (I6 (IntKind.i16.wrap v) T)) (hc:BK T) (hkey:T.ranged) (hroom:(I6 (IntKind.i16.wrap v) T).length + 16 ≤ 1099511627776) :
  Calls Tryz.prog 8 #[.int .i64 v,.slice A2 (I6 (IntKind.i16.wrap v) T).length c2] w (fun e w'=>∃ D cs,e = .returned (.tuple #[.agg cs.toArray,.bool true]) ∧ TreeR w' (Fp CI w) cs (BZ D) ∧ BV (IntKind.i16.wrap v) D T ∧ Step w w' C1):=by
 refine enter (n:=20) Tryz.func8 rfl Tryz.ntmps8 kz fun a hE=>?_
 have hW:=WOk.start w C1
 have hsm2:=Slots.small hs_
 refine C0 [0,1] kz ?_
 let ap:Value:=.int .i64 0
 let ab:Value:=.slice none 0 0
 refine B2 (H4 hW hE (d:=4) (cs:=[ap,ab,.bool false,ab,ab]) kz fun b1 a2 w3 hb4 hz5 hF6 hW7 hE8=>?_)
 let ay:Nat × SV:=(0,.v (.int .i64 v))
 let ag:Nat × SV:=(4,.p 0 0)
 refine B1 [1] [] [ay,(1,.v (.slice A2 ((I6 (IntKind.i16.wrap v) T).length) c2)),ag] hW7 hE8 fun a9 bU=>?_
 refine B5 (A4 ?_)
 refine C0 [0,1] kz ?_
 refine B2 (S3 bU (f:=14) (vs:=[]) (d:=7) (n':=3) kz Tryz.call14 Tryz.func14 rfl Tryz.ntmps14 kz fun dY bV=>?_)
 refine B7 [] hW7 bV fun dZ bW=>?_
 refine C0 [0] kz ?_
 let am:Value:=.int .i16 0
 let ah:Value:=.pointer none
 let aa:Value:=.int .i32 0
 let ac:Value:=.map none
 let ai:Value:=.int .i8 0
 let aj:Value:=.string ByteArray.empty
 refine B2 (H4 hW7 bW (d:=1) (cs:=[am,ah,aa,aa,ap,ac,aa,aa,aa,ai,aa,aa,ab,ab,aj,ac]) kz fun aC d4 d5 dy dA dB bd bX=>?_)
 refine B5 (A4 ?_)
 refine C0 [0] kz ?_
 let av:Value:=.pointer (some ⟨aC,0,none⟩)
 refine B2 (S3 bX (f:=32) (vs:=[av]) (d:=2) (n':=25) kz Tryz.call32 Tryz.func32 rfl Tryz.ntmps32 kz fun d6 bY=>?_)
 have bZ:=bY.recast 0 (.v (.pointer (some ⟨aC,0,none⟩))) (.p 1 0) rfl rfl (Nat.le_of_ble_eq_true (n:=2) rfl)
 refine C0 [0,1,2,3] kz ?_
 let al:Nat × SV:=(0,.p 1 0)
 refine B1 [0,1,2] [3] [al,(5,.p 1 1)] bd bZ fun d7 b8=>?_
 refine B2 (D5 bd b8 (oi:=1) (cs:=[am,ah,aa,aa,ap,ac,aa,aa,aa,ai,aa,aa,ab,ab,aj,ac]) kz fun d8 dC bf cd=>?_)
 refine B5 (A4 ?_)
 refine C0 [0,1,2,3] kz ?_
 refine B1 [0,1,2] [3] [al,(8,.p 1 2)] bf cd fun d9 ce=>?_
 let ae:Value:=.int .i32 (-1)
 refine B2 (D5 bf ce (oi:=1) (cs:=[am,ah,ae,aa,ap,ac,aa,aa,aa,ai,aa,aa,ab,ab,aj,ac]) kz fun ea dD aO cm=>?_)
 refine B5 (A4 ?_)
 refine wp_seq (B7 [al,(2,.p 1 3)] aO cm fun eb cq=>?_)
 refine B7 [al,(2,.p 1 3)] aO cq fun ec cr=>?_
 refine C0 [0,1,2,3] kz ?_
 refine B1 [0,1,2] [3] [al,(2,.p 1 3),(15,.p 1 3)] aO cr fun ee cu=>?_
 refine B2 (D5 aO cu (oi:=1) (cs:=[am,ah,ae,ae,ap,ac,aa,aa,aa,ai,aa,aa,ab,ab,aj,ac]) kz fun ef dE bg cw=>?_)
 refine B5 (A4 ?_)
 refine D7 [0,1,2,3] kz ?_
 refine B1 [0,1,2] [3] [al,(18,.p 1 4)] bg cw fun eg cz=>?_
 let ar:Value:=.int .i64 (-1)
 refine B2 (D5 bg cz (oi:=1) (cs:=[am,ah,ae,ae,ar,ac,aa,aa,aa,ai,aa,aa,ab,ab,aj,ac]) kz fun eh dF bh cA=>?_)
 refine B5 (A4 ?_)
 refine C0 [0,1,2,3] kz ?_
 refine B1 [0,1,2] [3] [al,(21,.p 1 8)] bh cA fun ei cB=>?_
 let aw:Value:=.int .i32 2147483647
 refine B2 (D5 bh cB (oi:=1) (cs:=[am,ah,ae,ae,ar,ac,aa,aa,aw,ai,aa,aa,ab,ab,aj,ac]) kz fun ej dG bj cC=>?_)
 refine B5 (A4 ?_)
 refine D7 [0,1,2,3] kz ?_
 refine B1 [0,1,2] [3] [(24,.p 1 11)] bj cC fun ek cD=>?_
 refine B2 (D5 bj cD (oi:=1) (cs:=[am,ah,ae,ae,ar,ac,aa,aa,aw,ai,aa,ae,ab,ab,aj,ac]) kz fun em dH ax cE=>?_)
 refine B5 (R6 cE ax.cells (v:=.tuple #[]) kz ?_)
 refine ⟨_,rfl,fun eo cG=>?_⟩
 let ak:Ob:=⟨b1,0,[ap,ab,.bool false,ab,ab],true⟩
 let aQ:Ob:=⟨aC,0,[am,ah,ae,ae,ar,ac,aa,aa,aw,ai,aa,ae,ab,ab,aj,ac],true⟩
 have cH:EnvOk 3 [ak,aQ] [(2,.v (.tuple #[])),(1,.p 1 0)] _:=cG.places (⟨rfl,rfl,⟨rfl,rfl,trivial⟩⟩)
 refine B5 (A4 ?_)
 refine B7 [al] ax cH fun ep cI=>?_
 refine wp_ret (C8 cI ax.cells (v:=.pointer (some ⟨aC,0,none⟩)) kz ?_)
 refine ⟨_,rfl,fun eu cJ=>?_⟩
 have cK:EnvOk 20 [ak,aQ] [(7,.v (.pointer (some ⟨aC,0,none⟩))),ay,(1,.v (.slice A2 ((I6 (IntKind.i16.wrap v) T).length) c2)),ag] _:=cJ.places (⟨rfl,rfl,trivial⟩)
 have cL:=cK.recast 7 (.v (.pointer (some ⟨aC,0,none⟩))) (.p 1 0) rfl rfl (Nat.le_of_ble_eq_true (n:=2) rfl)
 have cM:=cL.pick (ks:=[0,1,4,7]) (env':=[ay,(1,.v (.slice A2 ((I6 (IntKind.i16.wrap v) T).length) c2)),ag,(7,.p 1 0)]) kz
 let ao:Nat × SV:=(6,.p 1 0)
 refine B1 [1] [] [ay,(1,.v (.slice A2 ((I6 (IntKind.i16.wrap v) T).length) c2)),ag,ao] ax cM fun ev cN=>?_
 refine B5 (A4 ?_)
 refine C0 [0,1,2,3] kz ?_
 refine B1 [0,1,2] [3] [(1,.v (.slice A2 ((I6 (IntKind.i16.wrap v) T).length) c2)),ag,ao,(8,.p 1 0),(10,.v (.int .i16 (IntKind.i16.wrap v)))] ax cN fun ew cO=>?_
 let az:Value:=.int .i16 (IntKind.i16.wrap v)
 refine B2 (S3 cO (f:=19) (vs:=[av,az]) (d:=11) (n':=8) kz Tryz.call19 Tryz.func19 rfl Tryz.ntmps19 kz fun ey cP=>?_)
 have cQ:=cP.recast 0 (.v (.pointer (some ⟨aC,0,none⟩))) (.p 1 0) rfl rfl (Nat.le_of_ble_eq_true (n:=2) rfl)
 refine D7 [0,1,2,3,4] kz ?_
 refine B1 [0,1,2,3] [4] [(5,.v (.int .i16 (IntKind.i16.wrap v))),(7,.p 1 0)] ax cQ fun ez cR=>?_
 refine B2 (D5 ax cR (oi:=1) (cs:=[az,ah,ae,ae,ar,ac,aa,aa,aw,ai,aa,ae,ab,ab,aj,ac]) kz fun eB dI aP cS=>?_)
 refine B5 (R6 cS aP.cells (v:=.tuple #[]) kz ?_)
 refine ⟨_,rfl,fun eC cT=>?_⟩
 let aR:Ob:=⟨aC,0,[az,ah,ae,ae,ar,ac,aa,aa,aw,ai,aa,ae,ab,ab,aj,ac],true⟩
 have cU:EnvOk 20 [ak,aR] [(11,.v (.tuple #[])),(1,.v (.slice A2 ((I6 (IntKind.i16.wrap v) T).length) c2)),ag,ao,(8,.p 1 0),(10,.v (.int .i16 (IntKind.i16.wrap v)))] _:=cT.places (⟨rfl,rfl,⟨rfl,rfl,trivial⟩⟩)
 refine B5 (A4 ?_)
 refine wp_seq (C0 [0,1,2,3,4] kz ?_)
 refine B1 [0,1] [2,3,4] [ag,ao,(12,.p 1 0),(13,.v (.slice A2 ((I6 (IntKind.i16.wrap v) T).length) c2))] aP cU fun eD cV=>?_
 have aF:=aP.addNil 5 1
 have dJ:=aP.frNil 5 1
 refine B2 (I4 aF cV (k:=0) (d:=14) (t:=22) (e:=5) (size:=1) (bytes:=1) (A:=none) (As:=A2) (m0:=0) (c:=0) (m:=((I6 (IntKind.i16.wrap v) T).length)) (cs:=c2) (xs:=[]) (news:=bc (I6 (IntKind.i16.wrap v) T)) kz kz rfl (hs_.move aF.step A7 aF.imm).src (hs_.move aF.step A7 aF.imm).cap (by first | omega | (simp only [List.length_nil]; omega) | (simp; omega)) fun aD aE eE eF dp bk bn=>?_)
 have bo:(⟨aD,aE,5,1,0 + (I6 (IntKind.i16.wrap v) T).length,[] ++ bc (I6 (IntKind.i16.wrap v) T)⟩:Rw) = B4 aD aE 5 (I6 (IntKind.i16.wrap v) T):=by rw [List.nil_append,Nat.zero_add]
 obtain ⟨aA,dq⟩:=bk.rowEq 0 [B4 aD aE 5 (I6 (IntKind.i16.wrap v) T)] bo
 have bp:=EnvOk.pick bn (ks:=[4,6,12,13,14]) (env':=[ag,ao,(12,.p 1 0),(13,.v (.slice A2 ((I6 (IntKind.i16.wrap v) T).length) c2)),(14,.v (.slice aD (0 + (I6 (IntKind.i16.wrap v) T).length) aE))]) kz
 have bq:=bp.cast (env':=[ag,ao,(12,.p 1 0),(13,.v (.slice A2 ((I6 (IntKind.i16.wrap v) T).length) c2)),(14,.v (.slice aD ((I6 (IntKind.i16.wrap v) T).length) aE))]) (by simp only [List.length_append,List.length_cons,List.length_nil,Nat.zero_add])
 refine B2 (S3 bq (f:=20) (vs:=[av,.slice aD ((I6 (IntKind.i16.wrap v) T).length) aE]) (d:=15) (n':=8) kz Tryz.call20 Tryz.func20 rfl Tryz.ntmps20 kz fun dK bt=>?_)
 have bu:=bt.recast 0 (.v (.pointer (some ⟨aC,0,none⟩))) (.p 1 0) rfl rfl (Nat.le_of_ble_eq_true (n:=2) rfl)
 refine B7 [al,(1,.v (.slice aD ((I6 (IntKind.i16.wrap v) T).length) aE))] aA bu fun dL bw=>?_
 refine C0 [0,1,2,3] kz ?_
 refine B1 [0,1] [2,3] [(5,.p 1 0),(6,.v (.slice aD ((I6 (IntKind.i16.wrap v) T).length) aE))] aA bw fun dM bx=>?_
 have bz:=aA.giveUp (G:=CI) 0 [] (show _ = some (B4 aD aE 5 (I6 (IntKind.i16.wrap v) T)) from rfl) (by omega)
 obtain ⟨aS,dr⟩:=aA.cutR 0 []
 refine B2 (D3 bx (f:=34) (vs:=[av,.slice aD ((I6 (IntKind.i16.wrap v) T).length) aE,.bool false]) (d:=7) kz Tryz.call34 (Nz (IntKind.i16.wrap v) T (Str.of aS 1 rfl) bz (CC 1 rfl) hc hkey) ?_)
 rintro e_ dN ⟨af,rfl,bA,bB,bC,aX⟩
 let aB:Ob:=⟨aC,0,[az,.pointer ((af.f 0).A),.int .i32 ((af.f 1).n),.int .i32 (((af.f 2).f 0).n),.int .i64 (((af.f 2).f 1).n),.map ((af.f 2).m),.int .i32 ((af.f 3).n),.int .i32 ((af.f 4).n),.int .i32 ((af.f 5).n),.int .i8 ((af.f 6).n),.int .i32 ((af.f 7).n),.int .i32 ((af.f 8).n),.slice ((af.f 9).A) ((af.f 9).l) ((af.f 9).c),.slice ((af.f 10).A) ((af.f 10).l) ((af.f 10).c),.string ((af.f 11).s),.map af.m],true⟩
 obtain ⟨au,dt,bD⟩:=aS.wrote 1 [ak,aB] rfl aX bA
 have bE:=JQ _ (Step.refl _ C1) A7 bD bB
 refine ⟨_,rfl,fun dO bF=>?_⟩
 have bG:=(EnvOk.places (tb':=[ak,aB]) bF (show Pl [ak,aR] [ak,aB] from ⟨rfl,rfl,⟨rfl,rfl,trivial⟩⟩)).pk (env':=[(7,.v (.nilIface)),(5,.p 1 0),(6,.v (.slice aD ((I6 (IntKind.i16.wrap v) T).length) aE))])
 refine B1 [3] [] [(4,.v (.nilIface))] au bG fun dP bH=>?_
 refine B5 (A4 ?_)
 refine wp_ret (C8 bH au.cells (v:=.nilIface) kz ?_)
 refine ⟨_,rfl,fun dQ bI=>?_⟩
 have bJ:EnvOk 20 [ak,aB] [(15,.v (.nilIface)),ag,ao,(12,.p 1 0),(13,.v (.slice A2 ((I6 (IntKind.i16.wrap v) T).length) c2)),(14,.v (.slice aD ((I6 (IntKind.i16.wrap v) T).length) aE))] _:=bI.places (⟨rfl,rfl,⟨rfl,rfl,trivial⟩⟩)
 refine B1 [4] [] [ag,ao,(16,.v (.bool false))] au bJ fun dR aT=>?_
 refine B5 (A4 ?_)
 refine E6 aT (b:=false) kz rfl ?_
 refine wp_skip (A4 (C0 [0,1,2,3] kz ?_))
 refine B1 [0] [1,2,3] [ag,(18,.p 1 0)] au aT fun dS bK=>?_
 have bL:=bK.recast 18 (.p 1 0) (.v (.pointer (some ⟨aC,0,none⟩))) rfl rfl trivial
 let aU:C6:=[ag,(18,.v (.pointer (some ⟨aC,0,none⟩)))]
 have bM:=bL.pk (env':=aU)
 have aY:=WOk.strOut (G:=CI) [ak] au
 obtain ⟨bN,aG,aV⟩:=au.cutB bM 1 [ak] aU
 have bO:=JQ _ aV.step immM aV.to' bE
 refine B2 (D3 bN (f:=21) (vs:=[av]) (d:=19) kz Tryz.call21 (NS (IntKind.i16.wrap v) af aC 0 _ _ aY bO) ?_)
 rintro e_ dT ⟨du,rfl,bP,aH⟩
 have aI:=bP.move (Step.refl _ C1) A7 (aG.laid (G:=CI) aH)
 obtain ⟨aZ,cW,ba,cX,cY,cZ,da,db,dc,de,df,dv,dw,aJ,dg,dh,dU,dV⟩:=aI.open_
 rw [aJ] at aI
 have di:=dg.small
 have dj:=dh.small
 rw [aJ]
 refine ⟨_,rfl,fun dW bQ=>?_⟩
 have bR:=aG.next_nil aH
 have dx:=aG.frN aH
 let aK:Value:=.slice cZ cW.length da
 let aL:Value:=.slice db cX.length dc
 let aM:Value:=.slice de cY.length df
 refine B2 (D5 bR bQ (oi:=0) (cs:=[.int .i64 aZ,aK,.bool ba,aL,aM]) kz fun dl aW aN bS=>?_)
 refine B1 [3] [] [ag,(5,.v (.bool true))] aN bS fun dX bT=>?_
 refine B5 (A4 ?_)
 refine wp_ret (C8 bT aN.cells (v:=.tuple #[.agg #[.int .i64 aZ,aK,.bool ba,aL,aM],.bool true]) kz ?_)
 exact ⟨af,_,rfl,(show TreeR _ (E9 CI w dl [⟨b1,0,[.int .i64 aZ,aK,.bool ba,aL,aM],true⟩] []) _ (BZ af) from (aI.move aW.step immM aW.to')).move (Step.refl _ C1) A7 I8,bC,aN.step⟩
theorem Pd (v:Int) (T:Tree) (B:Bs) {A2:Option Addr} {c2:Nat} {w:World} {F:Nat → Nat → Prop} (hB:(I6 (IntKind.i16.wrap v) T) = B) (hs_:Octs w F A2 c2 B) (hc:BK T) (hkey:T.ranged) (hroom:B.length + 16 ≤ 1099511627776) :
  Calls Tryz.prog 8 #[.int .i64 v,.slice A2 B.length c2] w (fun e w'=>∃ D cs,e = .returned (.tuple #[.agg cs.toArray,.bool true]) ∧ TreeR w' (Fp CI w) cs (BZ D) ∧ BV (IntKind.i16.wrap v) D T ∧ Step w w' C1):=by
 subst hB
 exact Pc v T hs_ hc hkey hroom
theorem Fo (k n:Int) (w:World):Calls Tryz.prog 49 #[.int .i64 k,.int .i64 n] w (L5 w (.int .i64 (L8 k n))):=by
 refine enter (n:=31) Tryz.func49 rfl Tryz.ntmps49 kz fun a hE=>?_
 have hW:=WOk.start w C1
 let aa:Nat × SV:=(1,.v (.int .i64 n))
 refine B7 [(0,.v (.int .i64 k)),aa] hW hE fun a1 hE2=>?_
 refine wp_seq ?_
 let ab:Nat × SV:=(5,.v (.int .i64 k))
 refine B7 [aa,ab] hW hE2 fun a3 hE4=>?_
 refine wp_block (B7 [aa,ab,(6,.v (.bool (k == 0)))] hW hE4 fun a5 hE6=>?_)
 refine D4 hE6 (b:=k == 0) kz (fun hc7=>?_) (fun hc7=>?_)
 ·
  have hf8:k = 0:=by simpa using hc7
  refine B7 [(4,.v (.int .i64 (IntKind.i64.wrap (BitVec.ofInt 64 n &&& BitVec.ofInt 64 1).toNat)))] hW hE6 fun a9 al=>?_
  refine wp_ret (F3 (D6 (C8 al hW.cells (v:=.int .i64 (IntKind.i64.wrap (BitVec.ofInt 64 n &&& BitVec.ofInt 64 1).toNat)) kz ?_)))
  exact ⟨by (try simp only [H0]); simp_all [L8,BY,CJ,P1,CK],hW.step⟩
 have av:k ≠ 0:=by simpa using hc7
 refine B7 [aa,ab,(10,.v (.bool (k == 1)))] hW hE6 fun aE ac=>?_
 refine D4 ac (b:=k == 1) kz (fun ae=>?_) (fun ae=>?_)
 ·
  have aw:k = 1:=by simpa using ae
  refine B7 [(4,.v (.int .i64 (IntKind.i64.wrap (IntKind.i8.wrap n))))] hW ac fun aF am=>?_
  refine wp_ret (F3 (D6 (C8 am hW.cells (v:=.int .i64 (IntKind.i64.wrap (IntKind.i8.wrap n))) kz ?_)))
  exact ⟨by (try simp only [H0]); simp_all [L8,BY,CJ,P1,CK],hW.step⟩
 have ax:k ≠ 1:=by simpa using ae
 refine B7 [aa,ab,(15,.v (.bool (k == 2)))] hW ac fun aG af=>?_
 refine D4 af (b:=k == 2) kz (fun ag=>?_) (fun ag=>?_)
 ·
  have ay:k = 2:=by simpa using ag
  refine B7 [(4,.v (.int .i64 (IntKind.i64.wrap (IntKind.i16.wrap n))))] hW af fun aH ao=>?_
  refine wp_ret (F3 (D6 (C8 ao hW.cells (v:=.int .i64 (IntKind.i64.wrap (IntKind.i16.wrap n))) kz ?_)))
  exact ⟨by (try simp only [H0]); simp_all [L8,BY,CJ,P1,CK],hW.step⟩
 have az:k ≠ 2:=by simpa using ag
 refine B7 [aa,ab,(20,.v (.bool (k == 3)))] hW af fun aI ah=>?_
 refine D4 ah (b:=k == 3) kz (fun ai=>?_) (fun ai=>?_)
 ·
  have aA:k = 3:=by simpa using ai
  refine B7 [(4,.v (.int .i64 (IntKind.i64.wrap (IntKind.i32.wrap n))))] hW ah fun aJ ap=>?_
  refine wp_ret (F3 (D6 (C8 ap hW.cells (v:=.int .i64 (IntKind.i64.wrap (IntKind.i32.wrap n))) kz ?_)))
  exact ⟨by (try simp only [H0]); simp_all [L8,BY,CJ,P1,CK],hW.step⟩
 have aB:k ≠ 3:=by simpa using ai
 refine B7 [aa,(25,.v (.bool (k == 5)))] hW ah fun aK aj=>?_
 refine D4 aj (b:=k == 5) kz (fun ak=>?_) (fun ak=>?_)
 ·
  have aC:k = 5:=by simpa using ak
  refine B7 [(4,.v (.int .i64 (IntKind.i64.wrap (IntKind.u16.wrap n))))] hW aj fun aL ar=>?_
  refine wp_ret (F3 (D6 (C8 ar hW.cells (v:=.int .i64 (IntKind.i64.wrap (IntKind.u16.wrap n))) kz ?_)))
  exact ⟨by (try simp only [H0]); simp_all [L8,BY,CJ,P1,CK],hW.step⟩
 have aD:k ≠ 5:=by simpa using ak
 refine wp_skip (F2 (A4 (B7 [(4,.v (.int .i64 n))] hW aj fun aM au=>?_)))
 refine wp_ret (C8 au hW.cells (v:=.int .i64 n) kz ?_)
 exact ⟨by (try simp only [H0]); simp_all [L8,BY,CJ,P1,CK],hW.step⟩
def Ca (U:List Fld → Tree → Prop):Prop:=∀ (A:Option Addr) (c:Nat) (l:List Fld) (ct:List Value) (g:Tree) (w:World) (F:Nat → Nat → Prop),FldsR w F A c l → TreeR w F ct g → U l g →
  Calls Tryz.prog 27 #[.slice A l.length c,.agg ct.toArray] w (L5 w (.bool true))
theorem Fq {U:List Fld → Tree → Prop} (hu:Ca U) (A:Option Addr) (c:Nat) (l:List Fld) (ct:List Value) (g:Tree) (w:World) (F:Nat → Nat → Prop) (hl:FldsR w F A c l) (ht:TreeR w F ct g) (hU:Fd U l g) :
  Calls Tryz.prog 27 #[.slice A l.length c,.agg ct.toArray] w (L5 w (.bool true)):=by
 obtain ⟨xfs,h1,h2⟩:=hl.ex
 have hsm:=h1.small
 obtain ⟨n1,s2,b3,l4,u5,A6,c7,A8,c9,gD,gE,gF,rfl,rfl,gG,gH,jq,jr⟩:=ht.open_
 have fL:=gG.small
 have fM:=gH.small
 refine enter (n:=89) Tryz.func27 rfl Tryz.ntmps27 kz fun a hE=>?_
 have hW:=WOk.start w C1
 refine C0 [0,1] kz ?_
 let aS:Value:=.slice A6 s2.length c7
 let aT:Value:=.slice A8 l4.length c9
 let aU:Value:=.slice gD u5.length gE
 refine B2 (K9 hW hE (d:=3) (cs:=[.int .i64 n1,aS,.bool b3,aT,aU]) kz fun gI js jt gJ gK gL aP fq=>?_)
 let ab:Nat × SV:=(3,.p 0 0)
 refine B1 [1] [] [(0,.v (.slice A l.length c)),ab] aP fq fun ju fr=>?_
 refine B5 (A4 ?_)
 refine wp_seq (B7 [(0,.v (.slice A l.length c)),ab,(11,.v (.bool (decide (((u5.length:Nat):Int) > 0))))] aP fr fun jv cX=>?_)
 let ak:Nat × SV:=(4,.v (.bool false))
 refine D4 cX (b:=decide (((u5.length:Nat):Int) > 0)) kz (fun cY=>?_) (fun cY=>?_)
 ·
  have gM:=of_decide_eq_true cY
  refine B7 [ak] aP cX fun jw ft=>?_
  refine wp_ret (D6 (C8 ft aP.cells (v:=.bool false) kz ?_))
  exact (GX (g:=(Tree.mk n1 s2 b3 l4 u5)) hU.1 rfl ‹_›).elim
 have gN:=of_decide_eq_false cY
 refine wp_skip (A4 (wp_seq ?_))
 let ac:Nat × SV:=(12,.v (.slice A l.length c))
 let ae:Nat × SV:=(13,.v (.int .i64 ((l.length:Nat):Int)))
 refine B7 [ab,ac,ae,(14,.v (.int .i64 0))] aP cX fun jx fv=>?_
 refine wp_block ?_
 let al:Ob:=⟨gI,0,[.int .i64 n1,aS,.bool b3,aT,aU],true⟩
 refine wp_loop_ghost (fun n_ a_ w_=>∃ (k:Nat),n_ = l.length - k ∧ k ≤ l.length ∧ F9 aP 89 [al] [] [ab,ac,ae,(14,.v (.int .i64 ((k:Nat):Int)))] a_ w_) (l.length) ⟨0,by omega,by omega,fv.pk,aP,Fr.refl _ _ _⟩ ?_
 rintro jy jz jA ⟨k,gO,gP,fw,aQ,ay⟩
 let af:Nat × SV:=(14,.v (.int .i64 ((k:Nat):Int)))
 refine B7 [ab,ac,ae,af,(15,.v (.bool (decide (((k:Nat):Int) < ((l.length:Nat):Int)))))] aQ fw fun jB cZ=>?_
 refine wp_seq (D4 cZ (b:=decide (((k:Nat):Int) < ((l.length:Nat):Int))) kz (fun da=>?_) (fun da=>?_))
 ·
  have gQ:=of_decide_eq_true da
  refine wp_skip (A4 (wp_seq (wp_block (C0 [0,1,2,3,4,5] kz ?_))))
  refine B1 [0] [1,2,3,4,5] [ab,ac,ae,af,(16,.v (.int .i64 ((k:Nat):Int)))] aQ cZ fun jC fx=>?_
  obtain ⟨gR,gS,fy,gT,bP⟩:=Slots.get h1 (i:=k) (by omega)
  obtain ⟨gU,df⟩:∃ x,l[k]? = some x:=⟨_,List.getElem?_eq_getElem (by omega)⟩
  have dg:=h2 k gU df
  obtain ⟨am,fi,fj,bh,fk,db,fm,fo,fN,fO,dh,rfl,bQ,fz,fP⟩:=dg.open_
  rw [bQ] at dg
  have fQ:=fz.small
  rw [bQ] at bP
  refine B2 (G6 fx (t:=29) (A:=A) (m:=l.length) (q:=((k:Nat):Int)) (d:=17) kz (e:=51) (size:=8) (bytes:=80) kz fy rfl (by omega) fun jD fA=>?_)
  let aB:Value:=.int .i64 am
  let aC:Value:=.int .i64 db
  let av:Value:=.slice fN fo.length fO
  refine B2 (K3 fA (t:=51) (b:=gR) (o:=gS + k * 8) (d:=18) kz (cs:=[aB,.int .i64 fi,.int .i64 fj,.int .i64 bh,.int .i64 fk,aC,.int .i64 fm,av]) (v:=.agg #[aB,.int .i64 fi,.int .i64 fj,.int .i64 bh,.int .i64 fk,aC,.int .i64 fm,av]) kz (AtF.move bP aQ.step A7 E8).at_ fun jE fB=>?_)
  let ap:Value:=.int .i64 0
  let aV:Value:=.slice none 0 0
  refine B2 (H4 aQ fB (d:=6) (cs:=[ap,ap,ap,ap,ap,ap,ap,aV]) kz fun jF jG jH gV gW az di fC=>?_)
  let ah:Nat × SV:=(6,.p 1 0)
  refine B1 [4] [5] [ab,(5,.v (.int .i64 ((k:Nat):Int))),ah,ac,ae,af,(18,.v (.agg #[aB,.int .i64 fi,.int .i64 fj,.int .i64 bh,.int .i64 fk,aC,.int .i64 fm,av]))] di fC fun jI fD=>?_
  refine B2 (D5 di fD (oi:=1) (cs:=[aB,.int .i64 fi,.int .i64 fj,.int .i64 bh,.int .i64 fk,aC,.int .i64 fm,av]) kz fun jJ aA bj fE=>?_)
  refine B5 (A4 ?_)
  refine C0 [0,1,2,3,4] kz ?_
  refine B1 [0,1] [2,3,4] [ab,ah,ac,ae,af,(19,.v (.agg #[.int .i64 n1,aS,.bool b3,aT,aU])),(20,.v (.int .i64 ((k:Nat):Int)))] bj fE fun jK fF=>?_
  refine B2 (D3 fF (f:=23) (vs:=[.agg #[.int .i64 n1,aS,.bool b3,aT,aU],.int .i64 ((k:Nat):Int)]) (d:=21) kz Tryz.call23 (Cx _ _ k _ _ (ht.move bj.step A7 bj.imm)) ?_)
  rintro e_ gX ⟨gY,rfl,fG,bk⟩
  have aW:=fG.move bk A7 (fun b o h_ hb_=>bj.laid (G:=F) bk b o (.inl h_) (Nat.lt_of_lt_of_le hb_ bk.size))
  obtain ⟨aR,ar,au,bn,dj,dc,de,dl,dp,dq,dr,fR,bo,bp,dt,fH,gZ,hC⟩:=aW.open_
  rw [bp] at aW
  have fI:=dt.small
  have fJ:=fH.small
  rw [bp]
  refine ⟨_,rfl,fun hJ du=>?_⟩
  have dv:=bj.next_nil bk
  have ao:=bj.frN bk
  have hq_:=hU.2 k _ df
  rw [bo] at hq_
  refine B2 (H4 dv du (d:=7) (cs:=[ap,aV,.bool false,aV,aV]) kz fun hK hZ ia fS fT ai dw dx=>?_)
  let aX:Value:=.int .i64 aR
  let aD:Value:=.slice dc ar.length de
  let aY:Value:=.slice dl bn.length dp
  let aZ:Value:=.slice dq dj.length dr
  refine B2 (D5 dw dx (oi:=2) (cs:=[aX,aD,.bool au,aY,aZ]) kz fun ib aj aa dy=>?_)
  refine B5 (A4 ?_)
  let ag:Nat × SV:=(7,.p 2 0)
  let aE:Nat × SV:=(23,.v (.int .i64 am))
  refine B7 [ab,ah,ag,ac,ae,af,aE] aa dy fun ic dA=>?_
  refine wp_block (B7 [ab,ah,ag,ac,ae,af,aE,(32,.v (.bool (am == 8)))] aa dA fun ig bq=>?_)
  refine D4 bq (b:=am == 8) kz (fun bt=>?_) (fun bt=>?_)
  ·
   have fU:am = 8:=by simpa using bt
   refine C0 [0,1,2,3,4,5,6,7,8,9,10,11] kz ?_
   refine B1 [0,1,2,3,4,5,6] [7,8,9,10,11] [ab,ag,ac,ae,af,(40,.v (.bool (!(au == (decide (bh ≥ 0))))))] aa bq fun ii bR=>?_
   refine (Bool.eq_false_or_eq_true (!(au == (decide (bh ≥ 0))))).elim (fun aF=>?_) (fun aF=>?_)
   ·
    have fV:!(au = (decide (bh ≥ 0))):=by simpa using aF
    have dB:=bR
    rw [aF] at dB
    refine B1 [7,8,9,10,11] [] [ab,ac,ae,af,(45,.v (.bool true))] aa dB fun ij bS=>?_
    refine B5 (A4 ?_)
    refine I7 bS (b:=true) kz rfl ?_
    refine B7 [ak] aa bS fun ik dC=>?_
    refine wp_ret (F3 (F3 (D6 (D6 (F3 (D6 (C8 dC aa.cells (v:=.bool false) kz ?_)))))))
    first
     | exact (Z1 hq_ ‹_› ‹_›).elim
     | exact (Z2 hq_ ‹_› ‹_›).elim
     | exact (O5 hq_ ‹_› ‹_›).elim
     | exact (Z3 hq_ ‹_› ‹_›).elim
     | exact (Z4 hq_ ‹_› ‹_›).elim
     | exact (Z5 hq_ ‹_› ‹_›).elim
     | exact (Z6 hq_ ‹_› ‹_›).elim
     | exact (Z7 hq_ ‹_› ‹_› ‹_›).elim
     | exact (O6 hq_ ‹_› ‹_› ‹_› ‹_› ‹_› ‹_›).elim
   have fW:!(au ≠ (decide (bh ≥ 0))):=by simpa using aF
   have dD:=bR
   rw [aF] at dD
   refine B1 [7,8,9,10,11] [] [ab,ac,ae,af,(45,.v (.bool (decide (((ar.length:Nat):Int) > 0))))] aa dD fun il bu=>?_
   refine B5 (A4 ?_)
   refine D4 bu (b:=decide (((ar.length:Nat):Int) > 0)) kz (fun bw=>?_) (fun bw=>?_)
   ·
    have fX:=of_decide_eq_true bw
    refine B7 [ak] aa bu fun im dE=>?_
    refine wp_ret (F3 (F3 (D6 (D6 (F3 (D6 (C8 dE aa.cells (v:=.bool false) kz ?_)))))))
    first
     | exact (Z1 hq_ ‹_› ‹_›).elim
     | exact (Z2 hq_ ‹_› ‹_›).elim
     | exact (O5 hq_ ‹_› ‹_›).elim
     | exact (Z3 hq_ ‹_› ‹_›).elim
     | exact (Z4 hq_ ‹_› ‹_›).elim
     | exact (Z5 hq_ ‹_› ‹_›).elim
     | exact (Z6 hq_ ‹_› ‹_›).elim
     | exact (Z7 hq_ ‹_› ‹_› ‹_›).elim
     | exact (O6 hq_ ‹_› ‹_› ‹_› ‹_› ‹_› ‹_›).elim
   have fY:=of_decide_eq_false bw
   refine wp_skip (F2 (F2 (A4 (D7 [0,1] kz ?_))))
   refine B1 [0,1] [] [ab,ac,ae,(14,.v (.int .i64 (IntKind.i64.wrap (((k:Nat):Int) + 1))))] aa bu fun io dF=>?_
   refine B5 (A4 ?_)
   obtain ⟨bT,dG,dH⟩:=aa.cutB dF 1 [al] [ab,ac,ae,(14,.v (.int .i64 (IntKind.i64.wrap (((k:Nat):Int) + 1))))]
   have dI:IntKind.i64.wrap (((k:Nat):Int) + 1) = ((k + 1:Nat):Int):=G8 (by omega)
   rw [dI] at bT
   exact ⟨l.length - (k + 1),by omega,k + 1,rfl,by omega,bT.pk,dG,((((((ay.trans az).trans aA).trans ao).trans ai).trans aj).trans dH)⟩
  have fZ:am ≠ 8:=by simpa using bt
  refine B7 [ab,ah,ag,ac,ae,af,aE,(46,.v (.bool (am == 7)))] aa bq fun ip bx=>?_
  refine D4 bx (b:=am == 7) kz (fun bz=>?_) (fun bz=>?_)
  ·
   have f5:am = 7:=by simpa using bz
   refine G0 5 kz aa fun iq bA dJ dK=>?_
   refine C7 [0,1] [ab,ac,ae,af,(49,.v (.slice dc ar.length de))] 3 (A5 (B6 (B6 (A5 (A5 (B6 (A5 B8))))))) (fun _ h=>h.cells) dK bx fun ir dL=>?_
   refine C2 (i:=2) kz (BC dJ dL (d:=50) (j:=16) (t:=22) (e:=5) (bytes:=1) (z:=.int .u8 0) kz kz kz kz (rfl) (rfl) (by omega) fun fK iu iv f7 f8 aG ba dM=>?_)
   have dN:=TT.ofW aG ba
   refine ⟨fun _=>dN,?_⟩
   refine C2 (i:=3) kz (D3 dM (f:=29) (vs:=[aD,.slice (some ⟨fK,0,none⟩) 16 16]) (d:=51) kz Tryz.call29 (Q9 _ _ _ _ ar (List.replicate 16 0:Bs) _ _ ((dt.move (((ai.trans aj).trans bA).trans aG).step immM (((ai.trans aj).trans bA).trans aG).to').move (Step.refl _ C1) A7 I2) (NO (ba.own 0 _ rfl) (F:=fun _ _=>True) (fun _ _ _=>trivial))) ?_)
   rintro e_ iw ⟨rfl,bU⟩
   refine ⟨_,rfl,fun ix dO=>?_⟩
   have aH:=ba.next_nil bU
   have bV:=ba.frN bU
   have bW:=TT.ofW (aG.trans bV) aH
   refine ⟨fun _=>bW,?_⟩
   refine C7 [4] [ab,ac,ae,af,(52,.v (.bool (!(decide (ar = (List.replicate 16 0:Bs))))))] 0 (A5 (B6 (B6 (A5 (A5 (B6 (A5 B8))))))) (fun _ h=>h.cells) bW dO fun iy bB=>?_
   refine E5 kz ?_ _
   refine A4 (D4 bB (b:=!(decide (ar = (List.replicate 16 0:Bs)))) kz (fun dP=>?_) (fun dP=>?_))
   ·
    refine B7 [ak] aH bB fun iz dQ=>?_
    refine wp_ret (F3 (F3 (D6 (D6 (F3 (D6 (C8 dQ aH.cells (v:=.bool false) kz ?_)))))))
    first
     | exact (Z1 hq_ ‹_› ‹_›).elim
     | exact (Z2 hq_ ‹_› ‹_›).elim
     | exact (O5 hq_ ‹_› ‹_›).elim
     | exact (Z3 hq_ ‹_› ‹_›).elim
     | exact (Z4 hq_ ‹_› ‹_›).elim
     | exact (Z5 hq_ ‹_› ‹_›).elim
     | exact (Z6 hq_ ‹_› ‹_›).elim
     | exact (Z7 hq_ ‹_› ‹_› ‹_›).elim
     | exact (O6 hq_ ‹_› ‹_› ‹_› ‹_› ‹_› ‹_›).elim
   refine wp_skip (F2 (F2 (A4 (D7 [0,1] kz ?_))))
   refine B1 [0,1] [] [ab,ac,ae,(14,.v (.int .i64 (IntKind.i64.wrap (((k:Nat):Int) + 1))))] aH bB fun iA dR=>?_
   refine B5 (A4 ?_)
   obtain ⟨bX,dS,dT⟩:=aH.cutB dR 1 [al] [ab,ac,ae,(14,.v (.int .i64 (IntKind.i64.wrap (((k:Nat):Int) + 1))))]
   obtain ⟨dU,dV⟩:=dS.cutR 0 []
   have dW:IntKind.i64.wrap (((k:Nat):Int) + 1) = ((k + 1:Nat):Int):=G8 (by omega)
   rw [dW] at bX
   exact ⟨l.length - (k + 1),by omega,k + 1,rfl,by omega,bX.pk,dU,((((((((((ay.trans az).trans aA).trans ao).trans ai).trans aj).trans bA).trans aG).trans bV).trans dT).trans dV)⟩
  have f9:am ≠ 7:=by simpa using bz
  refine wp_seq (B7 [ab,ah,ag,ac,ae,af,aE,(53,.v (.bool (am == 9)))] aa bx fun iB bd=>?_)
  let aw:C6:=[ab,ag,ac,ae,af,(60,.v (.bool (decide (((ar.length:Nat):Int) > 0))))]
  let bY:C6:=[ab,ag,ac,ae,af,(60,.v (.bool true))]
  let bZ:C6:=[ab,ac,ae,af,(65,.v (.bool true))]
  let b8:C6:=[ab,ag,ac,ae,af,(60,.v (.bool false))]
  let cd:C6:=[ab,ac,ae,af,(65,.v (.bool (decide (((bn.length:Nat):Int) > 0))))]
  refine D4 bd (b:=am == 9) kz (fun bf=>?_) (fun bf=>?_)
  ·
   have ga:am = 9:=by simpa using bf
   refine wp_skip (A4 (I7 bd (b:=am == 9) kz (bf) ?_))
   refine C0 [0,1,2,3,4,5,6,7,8,9] kz ?_
   refine B1 [0,1,2,3,4] [5,6,7,8,9] aw aa bd fun iC ce=>?_
   refine (Bool.eq_false_or_eq_true (decide (((ar.length:Nat):Int) > 0))).elim (fun aI=>?_) (fun aI=>?_)
   ·
    have gb:=of_decide_eq_true aI
    have dX:=ce.cast (env':=bY) (by simp only [aw,aI]; try rfl)
    refine B1 [5,6,7,8,9] [] bZ aa dX fun iD cm=>?_
    refine B5 (A4 ?_)
    refine I7 cm (b:=true) kz rfl ?_
    refine B7 [ak] aa cm fun iE dY=>?_
    refine wp_ret (F3 (F3 (D6 (D6 (F3 (D6 (C8 dY aa.cells (v:=.bool false) kz ?_)))))))
    first
     | exact (Z1 hq_ ‹_› ‹_›).elim
     | exact (Z2 hq_ ‹_› ‹_›).elim
     | exact (O5 hq_ ‹_› ‹_›).elim
     | exact (Z3 hq_ ‹_› ‹_›).elim
     | exact (Z4 hq_ ‹_› ‹_›).elim
     | exact (Z5 hq_ ‹_› ‹_›).elim
     | exact (Z6 hq_ ‹_› ‹_›).elim
     | exact (Z7 hq_ ‹_› ‹_› ‹_›).elim
     | exact (O6 hq_ ‹_› ‹_› ‹_› ‹_› ‹_› ‹_›).elim
   have gc:=of_decide_eq_false aI
   have dZ:=ce.cast (env':=b8) (by simp only [aw,aI]; try rfl)
   refine B1 [5,6,7,8,9] [] cd aa dZ fun iF bC=>?_
   refine B5 (A4 ?_)
   refine D4 bC (b:=decide (((bn.length:Nat):Int) > 0)) kz (fun bD=>?_) (fun bD=>?_)
   ·
    have gd:=of_decide_eq_true bD
    refine B7 [ak] aa bC fun iG d4=>?_
    refine wp_ret (F3 (F3 (D6 (D6 (F3 (D6 (C8 d4 aa.cells (v:=.bool false) kz ?_)))))))
    first
     | exact (Z1 hq_ ‹_› ‹_›).elim
     | exact (Z2 hq_ ‹_› ‹_›).elim
     | exact (O5 hq_ ‹_› ‹_›).elim
     | exact (Z3 hq_ ‹_› ‹_›).elim
     | exact (Z4 hq_ ‹_› ‹_›).elim
     | exact (Z5 hq_ ‹_› ‹_›).elim
     | exact (Z6 hq_ ‹_› ‹_›).elim
     | exact (Z7 hq_ ‹_› ‹_› ‹_›).elim
     | exact (O6 hq_ ‹_› ‹_› ‹_› ‹_› ‹_› ‹_›).elim
   have ge:=of_decide_eq_false bD
   refine wp_skip (F2 (F2 (A4 (D7 [0,1] kz ?_))))
   refine B1 [0,1] [] [ab,ac,ae,(14,.v (.int .i64 (IntKind.i64.wrap (((k:Nat):Int) + 1))))] aa bC fun iH d5=>?_
   refine B5 (A4 ?_)
   obtain ⟨cq,d6,d7⟩:=aa.cutB d5 1 [al] [ab,ac,ae,(14,.v (.int .i64 (IntKind.i64.wrap (((k:Nat):Int) + 1))))]
   have d8:IntKind.i64.wrap (((k:Nat):Int) + 1) = ((k + 1:Nat):Int):=G8 (by omega)
   rw [d8] at cq
   exact ⟨l.length - (k + 1),by omega,k + 1,rfl,by omega,cq.pk,d6,((((((ay.trans az).trans aA).trans ao).trans ai).trans aj).trans d7)⟩
  have gg:am ≠ 9:=by simpa using bf
  refine D7 [0,1] kz ?_
  refine B1 [0,1] [] [ab,ah,ag,ac,ae,af,aE,(53,.v (.bool (am == 11)))] aa bd fun iI bE=>?_
  refine B5 (A4 ?_)
  refine D4 bE (b:=am == 11) kz (fun bF=>?_) (fun bF=>?_)
  ·
   have gh:am = 11:=by simpa using bF
   refine C0 [0,1,2,3,4,5,6,7,8,9] kz ?_
   refine B1 [0,1,2,3,4] [5,6,7,8,9] aw aa bE fun iJ cr=>?_
   refine (Bool.eq_false_or_eq_true (decide (((ar.length:Nat):Int) > 0))).elim (fun aJ=>?_) (fun aJ=>?_)
   ·
    have gi:=of_decide_eq_true aJ
    have d9:=cr.cast (env':=bY) (by simp only [aw,aJ]; try rfl)
    refine B1 [5,6,7,8,9] [] bZ aa d9 fun iK cu=>?_
    refine B5 (A4 ?_)
    refine I7 cu (b:=true) kz rfl ?_
    refine B7 [ak] aa cu fun iL ea=>?_
    refine wp_ret (F3 (F3 (D6 (D6 (F3 (D6 (C8 ea aa.cells (v:=.bool false) kz ?_)))))))
    first
     | exact (Z1 hq_ ‹_› ‹_›).elim
     | exact (Z2 hq_ ‹_› ‹_›).elim
     | exact (O5 hq_ ‹_› ‹_›).elim
     | exact (Z3 hq_ ‹_› ‹_›).elim
     | exact (Z4 hq_ ‹_› ‹_›).elim
     | exact (Z5 hq_ ‹_› ‹_›).elim
     | exact (Z6 hq_ ‹_› ‹_›).elim
     | exact (Z7 hq_ ‹_› ‹_› ‹_›).elim
     | exact (O6 hq_ ‹_› ‹_› ‹_› ‹_› ‹_› ‹_›).elim
   have gj:=of_decide_eq_false aJ
   have eb:=cr.cast (env':=b8) (by simp only [aw,aJ]; try rfl)
   refine B1 [5,6,7,8,9] [] cd aa eb fun iM bG=>?_
   refine B5 (A4 ?_)
   refine D4 bG (b:=decide (((bn.length:Nat):Int) > 0)) kz (fun bH=>?_) (fun bH=>?_)
   ·
    have gk:=of_decide_eq_true bH
    refine B7 [ak] aa bG fun iN ec=>?_
    refine wp_ret (F3 (F3 (D6 (D6 (F3 (D6 (C8 ec aa.cells (v:=.bool false) kz ?_)))))))
    first
     | exact (Z1 hq_ ‹_› ‹_›).elim
     | exact (Z2 hq_ ‹_› ‹_›).elim
     | exact (O5 hq_ ‹_› ‹_›).elim
     | exact (Z3 hq_ ‹_› ‹_›).elim
     | exact (Z4 hq_ ‹_› ‹_›).elim
     | exact (Z5 hq_ ‹_› ‹_›).elim
     | exact (Z6 hq_ ‹_› ‹_›).elim
     | exact (Z7 hq_ ‹_› ‹_› ‹_›).elim
     | exact (O6 hq_ ‹_› ‹_› ‹_› ‹_› ‹_› ‹_›).elim
   have gl:=of_decide_eq_false bH
   refine wp_skip (F2 (F2 (A4 (D7 [0,1] kz ?_))))
   refine B1 [0,1] [] [ab,ac,ae,(14,.v (.int .i64 (IntKind.i64.wrap (((k:Nat):Int) + 1))))] aa bG fun iO ee=>?_
   refine B5 (A4 ?_)
   obtain ⟨cw,ef,eg⟩:=aa.cutB ee 1 [al] [ab,ac,ae,(14,.v (.int .i64 (IntKind.i64.wrap (((k:Nat):Int) + 1))))]
   have eh:IntKind.i64.wrap (((k:Nat):Int) + 1) = ((k + 1:Nat):Int):=G8 (by omega)
   rw [eh] at cw
   exact ⟨l.length - (k + 1),by omega,k + 1,rfl,by omega,cw.pk,ef,((((((ay.trans az).trans aA).trans ao).trans ai).trans aj).trans eg)⟩
  have gm:am ≠ 11:=by simpa using bF
  refine B7 [ab,ah,ag,ac,ae,af,(66,.v (.bool (am == 10)))] aa bE fun iP bI=>?_
  refine D4 bI (b:=am == 10) kz (fun bJ=>?_) (fun bJ=>?_)
  ·
   have gn:am = 10:=by simpa using bJ
   refine C0 [0,1,2,3,4,5,6,7,8,9,10,11,12,13,14,15,16,17,18,19] kz ?_
   refine B1 [0,1,2,3] [4,5,6,7,8,9,10,11,12,13,14,15,16,17,18,19] [ab,ah,ag,ac,ae,af,(71,.v (.bool (decide (bh ≥ 0))))] aa bI fun iQ cz=>?_
   let aK:Nat × SV:=(76,.v (.bool false))
   let ax:C6:=[ab,ah,ag,ac,ae,af,aK,(80,.v (.bool (decide (bh < 0))))]
   let cA:C6:=[ab,ah,ag,ac,ae,af,aK,(80,.v (.bool true))]
   let cB:C6:=[ab,ac,ae,af,aK,(80,.v (.bool true)),(82,.v (.slice fN fo.length fO)),(83,.v (.agg #[aX,aD,.bool au,aY,aZ]))]
   let bg:C6:=[ab,ac,ae,af,(87,.v (.bool false))]
   let cC:C6:=[ab,ah,ag,ac,ae,af,aK,(80,.v (.bool false))]
   let gp:Value:=.agg #[.int .i64 aR,.slice dc ar.length de,.bool au,.slice dl bn.length dp,.slice dq dj.length dr]
   refine (Bool.eq_false_or_eq_true (decide (bh ≥ 0))).elim (fun aL=>?_) (fun aL=>?_)
   ·
    have gq:=of_decide_eq_true aL
    have ei:=cz
    rw [aL] at ei
    refine B1 [4,5,6,7,8] [9,10,11,12,13,14,15,16,17,18,19] [ab,ah,ag,ac,ae,af,(76,.v (.bool (!au)))] aa ei fun iR cD=>?_
    refine (Bool.eq_false_or_eq_true (!au)).elim (fun bK=>?_) (fun bK=>?_)
    ·
     have ej:=cD
     rw [bK] at ej
     refine B1 [9,10,11,12,13,14,15,16,17,18,19] [] [ab,ac,ae,af,(87,.v (.bool true))] aa ej fun iS cE=>?_
     refine B5 (A4 ?_)
     refine I7 cE (b:=true) kz rfl ?_
     refine B7 [ak] aa cE fun iT ek=>?_
     refine wp_ret (F3 (F3 (D6 (D6 (F3 (D6 (C8 ek aa.cells (v:=.bool false) kz ?_)))))))
     first
      | exact (Z1 hq_ ‹_› ‹_›).elim
      | exact (Z2 hq_ ‹_› ‹_›).elim
      | exact (O5 hq_ ‹_› ‹_›).elim
      | exact (Z3 hq_ ‹_› ‹_›).elim
      | exact (Z4 hq_ ‹_› ‹_›).elim
      | exact (Z5 hq_ ‹_› ‹_›).elim
      | exact (Z6 hq_ ‹_› ‹_›).elim
      | exact (Z7 hq_ ‹_› ‹_› ‹_›).elim
      | exact (O6 hq_ ‹_› ‹_› ‹_› ‹_› ‹_› ‹_›).elim
    have em:=cD
    rw [bK] at em
    refine B1 [9,10,11,12] [13,14,15,16,17,18,19] ax aa em fun iU cG=>?_
    refine (Bool.eq_false_or_eq_true (decide (bh < 0))).elim (fun aM=>?_) (fun aM=>?_)
    ·
     have gt:=of_decide_eq_true aM
     have eo:=cG.cast (env':=cA) (by simp only [ax,aM]; try rfl)
     refine B1 [13,14,15] [16,17,18,19] cB aa eo fun iV ep=>?_
     refine B2 (D3 ep (f:=27) (vs:=[av,.agg #[aX,aD,.bool au,aY,aZ]]) (d:=84) kz Tryz.call27 ( hu _ _ fo _ _ _ _ ⟨dh,(fz.move aa.step A7 aa.imm),(fun i_ x_ h_=>((fP i_ x_ h_).move aa.step A7 aa.imm))⟩ (aW.move (ai.trans aj).step immM (ai.trans aj).to') (by rw [bo]; exact JU hq_ ‹_› ‹_›)) ?_)
     rintro e_ iW ⟨rfl,cH⟩
     refine ⟨_,rfl,fun iX eu=>?_⟩
     have bL:=aa.next_nil cH
     have ev:=aa.frN cH
     refine B1 [17,18,19] [] bg bL eu fun iY cI=>?_
     refine B5 (A4 ?_)
     refine E6 cI (b:=false) kz rfl ?_
     refine wp_skip (F2 (F2 (A4 (D7 [0,1] kz ?_))))
     refine B1 [0,1] [] [ab,ac,ae,(14,.v (.int .i64 (IntKind.i64.wrap (((k:Nat):Int) + 1))))] bL cI fun iZ ew=>?_
     refine B5 (A4 ?_)
     obtain ⟨cJ,ey,ez⟩:=bL.cutB ew 1 [al] [ab,ac,ae,(14,.v (.int .i64 (IntKind.i64.wrap (((k:Nat):Int) + 1))))]
     have eB:IntKind.i64.wrap (((k:Nat):Int) + 1) = ((k + 1:Nat):Int):=G8 (by omega)
     rw [eB] at cJ
     exact ⟨l.length - (k + 1),by omega,k + 1,rfl,by omega,cJ.pk,ey,(((((((ay.trans az).trans aA).trans ao).trans ai).trans aj).trans ev).trans ez)⟩
    have gv:=of_decide_eq_false aM
    have eC:=cG.cast (env':=cC) (by simp only [ax,aM]; try rfl)
    refine B1 [13,14,15,16,17,18,19] [] bg aa eC fun i6 cK=>?_
    refine B5 (A4 ?_)
    refine E6 cK (b:=false) kz rfl ?_
    refine wp_skip (F2 (F2 (A4 (D7 [0,1] kz ?_))))
    refine B1 [0,1] [] [ab,ac,ae,(14,.v (.int .i64 (IntKind.i64.wrap (((k:Nat):Int) + 1))))] aa cK fun i7 eD=>?_
    refine B5 (A4 ?_)
    obtain ⟨cL,eE,eF⟩:=aa.cutB eD 1 [al] [ab,ac,ae,(14,.v (.int .i64 (IntKind.i64.wrap (((k:Nat):Int) + 1))))]
    have eG:IntKind.i64.wrap (((k:Nat):Int) + 1) = ((k + 1:Nat):Int):=G8 (by omega)
    rw [eG] at cL
    exact ⟨l.length - (k + 1),by omega,k + 1,rfl,by omega,cL.pk,eE,((((((ay.trans az).trans aA).trans ao).trans ai).trans aj).trans eF)⟩
   have gw:=of_decide_eq_false aL
   have eH:=cz.cast (env':=[ab,ah,ag,ac,ae,af,(71,.v (.bool false))]) (by rw [aL])
   refine B1 [4,5,6,7,8,9,10,11,12] [13,14,15,16,17,18,19] ax aa eH fun ja cM=>?_
   refine (Bool.eq_false_or_eq_true (decide (bh < 0))).elim (fun aN=>?_) (fun aN=>?_)
   ·
    have gx:=of_decide_eq_true aN
    have eI:=cM.cast (env':=cA) (by simp only [ax,aN]; try rfl)
    refine B1 [13,14,15] [16,17,18,19] cB aa eI fun jb eJ=>?_
    refine B2 (D3 eJ (f:=27) (vs:=[av,.agg #[aX,aD,.bool au,aY,aZ]]) (d:=84) kz Tryz.call27 ( hu _ _ fo _ _ _ _ ⟨dh,(fz.move aa.step A7 aa.imm),(fun i_ x_ h_=>((fP i_ x_ h_).move aa.step A7 aa.imm))⟩ (aW.move (ai.trans aj).step immM (ai.trans aj).to') (by rw [bo]; exact JU hq_ ‹_› ‹_›)) ?_)
    rintro e_ jc ⟨rfl,cN⟩
    refine ⟨_,rfl,fun jd eK=>?_⟩
    have bM:=aa.next_nil cN
    have eL:=aa.frN cN
    refine B1 [17,18,19] [] bg bM eK fun je cO=>?_
    refine B5 (A4 ?_)
    refine E6 cO (b:=false) kz rfl ?_
    refine wp_skip (F2 (F2 (A4 (D7 [0,1] kz ?_))))
    refine B1 [0,1] [] [ab,ac,ae,(14,.v (.int .i64 (IntKind.i64.wrap (((k:Nat):Int) + 1))))] bM cO fun jf eM=>?_
    refine B5 (A4 ?_)
    obtain ⟨cP,eN,eO⟩:=bM.cutB eM 1 [al] [ab,ac,ae,(14,.v (.int .i64 (IntKind.i64.wrap (((k:Nat):Int) + 1))))]
    have eP:IntKind.i64.wrap (((k:Nat):Int) + 1) = ((k + 1:Nat):Int):=G8 (by omega)
    rw [eP] at cP
    exact ⟨l.length - (k + 1),by omega,k + 1,rfl,by omega,cP.pk,eN,(((((((ay.trans az).trans aA).trans ao).trans ai).trans aj).trans eL).trans eO)⟩
   have gy:=of_decide_eq_false aN
   have eQ:=cM.cast (env':=cC) (by simp only [ax,aN]; try rfl)
   refine B1 [13,14,15,16,17,18,19] [] bg aa eQ fun jg cQ=>?_
   refine B5 (A4 ?_)
   refine E6 cQ (b:=false) kz rfl ?_
   refine wp_skip (F2 (F2 (A4 (D7 [0,1] kz ?_))))
   refine B1 [0,1] [] [ab,ac,ae,(14,.v (.int .i64 (IntKind.i64.wrap (((k:Nat):Int) + 1))))] aa cQ fun jh eR=>?_
   refine B5 (A4 ?_)
   obtain ⟨cR,eS,eU⟩:=aa.cutB eR 1 [al] [ab,ac,ae,(14,.v (.int .i64 (IntKind.i64.wrap (((k:Nat):Int) + 1))))]
   have eV:IntKind.i64.wrap (((k:Nat):Int) + 1) = ((k + 1:Nat):Int):=G8 (by omega)
   rw [eV] at cR
   exact ⟨l.length - (k + 1),by omega,k + 1,rfl,by omega,cR.pk,eS,((((((ay.trans az).trans aA).trans ao).trans ai).trans aj).trans eU)⟩
  have gz:am ≠ 10:=by simpa using bJ
  refine G0 8 kz aa fun ji eW cS eX=>?_
  refine C7 [0,1,2,3,4,5] [ab,ac,ae,af,(25,.v (.int .i64 aR)),(27,.v (.int .i64 am)),(29,.v (.int .i64 db))] 2 (A5 (B6 (B6 (A5 (A5 (B6 (A5 B8))))))) (fun _ h=>h.cells) eX bI fun jj eY=>?_
  refine C2 (i:=6) kz (D3 eY (f:=49) (vs:=[aB,aC]) (d:=30) kz Tryz.call49 (Fo am db _) ?_)
  rintro e_ jk ⟨rfl,cT⟩
  refine ⟨_,rfl,fun jl eZ=>?_⟩
  have aO:=cS.next_nil cT
  have cU:=cS.frN cT
  have cV:=TT.ofW cU aO
  refine ⟨fun _=>cV,?_⟩
  refine C7 [7] [ab,ac,ae,af,(31,.v (.bool (aR != (L8 am db))))] 0 (A5 (B6 (B6 (A5 (A5 (B6 (A5 B8))))))) (fun _ h=>h.cells) cV eZ fun jm bN=>?_
  refine E5 kz ?_ _
  refine A4 (D4 bN (b:=aR != (L8 am db)) kz (fun bO=>?_) (fun bO=>?_))
  ·
   have gA:aR ≠ (L8 am db):=by simpa using bO
   refine B7 [ak] aO bN fun jn e9=>?_
   refine wp_ret (F3 (F3 (D6 (D6 (F3 (D6 (C8 e9 aO.cells (v:=.bool false) kz ?_)))))))
   first
    | exact (Z1 hq_ ‹_› ‹_›).elim
    | exact (Z2 hq_ ‹_› ‹_›).elim
    | exact (O5 hq_ ‹_› ‹_›).elim
    | exact (Z3 hq_ ‹_› ‹_›).elim
    | exact (Z4 hq_ ‹_› ‹_›).elim
    | exact (Z5 hq_ ‹_› ‹_›).elim
    | exact (Z6 hq_ ‹_› ‹_›).elim
    | exact (Z7 hq_ ‹_› ‹_› ‹_›).elim
    | exact (O6 hq_ ‹_› ‹_› ‹_› ‹_› ‹_› ‹_›).elim
  have gB:aR = (L8 am db):=by simpa using bO
  refine wp_skip (F2 (F2 (A4 (D7 [0,1] kz ?_))))
  refine B1 [0,1] [] [ab,ac,ae,(14,.v (.int .i64 (IntKind.i64.wrap (((k:Nat):Int) + 1))))] aO bN fun jo fb=>?_
  refine B5 (A4 ?_)
  obtain ⟨cW,fe,ff⟩:=aO.cutB fb 1 [al] [ab,ac,ae,(14,.v (.int .i64 (IntKind.i64.wrap (((k:Nat):Int) + 1))))]
  have fg:IntKind.i64.wrap (((k:Nat):Int) + 1) = ((k + 1:Nat):Int):=G8 (by omega)
  rw [fg] at cW
  exact ⟨l.length - (k + 1),by omega,k + 1,rfl,by omega,cW.pk,fe,((((((((ay.trans az).trans aA).trans ao).trans ai).trans aj).trans eW).trans cU).trans ff)⟩
 have gC:=of_decide_eq_false da
 refine wp_exit (E7 (E7 (G9 (A4 (B7 [(4,.v (.bool true))] aQ cZ fun jp fh=>?_)))))
 refine wp_ret (C8 fh aQ.cells (v:=.bool true) kz ?_)
 exact ⟨rfl,aQ.step⟩
theorem Kd:∀ d,Ca (GV d)
 | 0=>Fq fun _ _ _ _ _ _ _ _ _ h=>h.elim
 | d + 1=>Fq (Kd d)
def W1 (v:Int) (flex:Bool) (T:List Fld → Tree → Tree → Prop):Prop:=∀ (A:Option Addr) (c:Nat) (l:List Fld) (ct:List Value) (t:Tree) (cg:List Value) (g:Tree) (w:World) (F:Nat → Nat → Prop),FldsR w F A c l → TreeR w F ct t → TreeR w F cg g → plains l → T l t g →
  Calls Tryz.prog 10 #[.slice A l.length c,.int .i64 v,.bool flex,.agg ct.toArray,.agg cg.toArray] w (L5 w (.bool true))
theorem Fs {v:Int} {flex:Bool} {T:List Fld → Tree → Tree → Prop} (hT:W1 v flex T) (cf:List Value) (f:Fld) (ct:List Value) (t:Tree) (cg:List Value) (g:Tree) (w:World) (F:Nat → Nat → Prop) (hf:FldR w F cf f) (hpl:plains f.sub) (b8:f.kind ≠ 11) (ht:TreeR w F ct t) (hg:TreeR w F cg g) (hq:O4 T v f t g) :
  Calls Tryz.prog 26 #[.agg cf.toArray,.int .i64 v,.bool flex,.agg ct.toArray,.agg cg.toArray] w (L5 w (.bool true)):=by
 obtain ⟨k1,y2,y3,y4,y5,y6,y7,l8,A9,jX,eS,rfl,rfl,jA,jY⟩:=hf.open_
 have jZ:=jA.small
 obtain ⟨al,ac,au,av,aw,bj,bk,jB,jC,jD,jE,lP,rfl,rfl,aV,lQ,pU,pV⟩:=ht.open_
 have j0:=aV.small
 have j1:=lQ.small
 obtain ⟨bE,am,aD,jw,jx,jy,jz,j2,j3,j4,j5,lR,rfl,rfl,bZ,lS,pW,pX⟩:=hg.open_
 have j6:=bZ.small
 have j7:=lS.small
 replace hpl:plains l8:=hpl
 have b8:k1 ≠ 11:=b8
 refine enter (n:=124) Tryz.func26 rfl Tryz.ntmps26 kz fun a hE=>?_
 have hW:=WOk.start w C1
 refine C0 [0,1,2,3] kz ?_
 let aW:Value:=.int .i64 k1
 let bn:Value:=.slice A9 l8.length jX
 refine B2 (K9 hW hE (d:=5) (cs:=[aW,.int .i64 y2,.int .i64 y3,.int .i64 y4,.int .i64 y5,.int .i64 y6,.int .i64 y7,bn]) kz fun pY pZ p4 lT lU lV jF jG=>?_)
 let ax:Value:=.int .i64 al
 let ao:Value:=.slice bj ac.length bk
 let aX:Value:=.bool au
 let aY:Value:=.slice jB av.length jC
 let aZ:Value:=.slice jD aw.length jE
 refine B2 (K9 jF jG (d:=8) (cs:=[ax,ao,aX,aY,aZ]) kz fun p5 p6 p7 lW lX lY jH jI=>?_)
 let bF:Value:=.int .i64 bE
 let aj:Value:=.slice jy am.length jz
 let bG:Value:=.slice j2 jw.length j3
 let bH:Value:=.slice j4 jx.length j5
 refine B2 (K9 jH jI (d:=9) (cs:=[bF,aj,.bool aD,bG,bH]) kz fun p8 p9 qa lZ l0 l3 dC jJ=>?_)
 let af:Nat × SV:=(1,.v (.int .i64 v))
 let ag:Nat × SV:=(2,.v (.bool flex))
 let ah:Nat × SV:=(5,.p 0 0)
 let ae:Nat × SV:=(8,.p 1 0)
 let ab:Nat × SV:=(9,.p 2 0)
 refine B1 [3] [] [af,ag,ah,ae,ab] dC jJ fun qb jK=>?_
 refine B5 (A4 ?_)
 refine C0 [0,1,2,3,4] kz ?_
 let j8:Value:=(.agg #[.int .i64 al,.slice bj ac.length bk,.bool au,.slice jB av.length jC,.slice jD aw.length jE])
 refine B1 [0,1,2] [3,4] [af,ag,ah,ae,ab,(17,.v (.agg #[aW,.int .i64 y2,.int .i64 y3,.int .i64 y4,.int .i64 y5,.int .i64 y6,.int .i64 y7,bn])),(18,.v (.int .i64 v)),(19,.v (.agg #[ax,ao,aX,aY,aZ]))] dC jK fun qc jL=>?_
 let j9:Value:=.agg #[.int .i64 al,.slice bj ac.length bk,.bool au,.slice jB av.length jC,.slice jD aw.length jE]
 refine B2 (D3 jL (f:=47) (vs:=[.agg #[aW,.int .i64 y2,.int .i64 y3,.int .i64 y4,.int .i64 y5,.int .i64 y6,.int .i64 y7,bn],.int .i64 v,.agg #[ax,ao,aX,aY,aZ]]) (d:=20) kz Tryz.call47 (Gn k1 y2 y3 y4 y5 y6 y7 l8 _ _ v al ac au av aw _ _ _ _ _ _ _) ?_)
 rintro e_ qd ⟨rfl,eU⟩
 refine ⟨_,rfl,fun qe jM=>?_⟩
 have aa:=dC.next_nil eU
 have l5:=dC.frN eU
 let ai:Nat × SV:=(11,.v (.bool (z2 k1 y2 y3 y4 y5 y6 y7 l8 v al ac au av aw)))
 refine B1 [4] [] [af,ag,ah,ae,ab,ai] aa jM fun qf jN=>?_
 refine B5 (A4 ?_)
 refine C0 [0,1,2,3,4,5,6,7,8,9] kz ?_
 refine B1 [0,1,2,3] [4,5,6,7,8,9] [af,ag,ah,ae,ab,ai,(24,.v (.bool (decide (y4 ≥ 0))))] aa jN fun qg eV=>?_
 let bo:C6:=[af,ag,ah,ae,ab,ai,(46,.v (.bool (!(aD == (z2 k1 y2 y3 y4 y5 y6 y7 l8 v al ac au av aw)))))]
 let aE:C6:=[af,ag,ah,ae,ab,(47,.v (.bool (z2 k1 y2 y3 y4 y5 y6 y7 l8 v al ac au av aw)))]
 let bp:Nat × SV:=(49,.v (.int .i64 k1))
 let aF:C6:=[af,ag,ah,ae,ab,bp]
 let ap:C6:=[af,ag,ah,ae,ab,bp,(50,.v (.bool (k1 == 8)))]
 let aG:C6:=[(54,.v (.slice jy am.length jz)),(56,.v (.slice bj ac.length bk))]
 let bq:C6:=[af,ag,ah,ae,ab,bp,(50,.v (.bool (k1 == 9)))]
 let bt:C6:=[af,ag,ah,ae,ab,bp,(59,.v (.bool (k1 == 7)))]
 let ay:C6:=[af,ag,ah,ae,ab,bp,(70,.v (.bool (k1 == 10)))]
 let dD:C6:=[(73,.v (.slice A9 l8.length jX)),(74,.v (.int .i64 v)),(75,.v (.bool flex)),(76,.v (.agg #[ax,ao,aX,aY,aZ])),(77,.v (.agg #[bF,aj,.bool aD,bG,bH]))]
 let cd:C6:=[af,ag,ah,ae,ab,(79,.v (.bool (k1 == 11)))]
 let ce:C6:=[(117,.v (.int .i64 bE)),(119,.v (.int .i64 k1)),(121,.v (.int .i64 al))]
 let dE:C6:=[af,ag,ah,ae,ab,ai,(46,.v (.bool false))]
 let bu:Nat × SV:=(10,.v (.bool false))
 let az:Nat × SV:=(10,.v (.bool true))
 let ak:Nat × SV:=(64,.v (.slice bj ac.length bk))
 let bw:Nat × SV:=(67,.v (.slice jy am.length jz))
 let ka:Value:=.agg #[.int .i64 bE,.slice jy am.length jz,.bool aD,.slice j2 jw.length j3,.slice j4 jx.length j5]
 refine (Bool.eq_false_or_eq_true (decide (y4 ≥ 0))).elim (fun cm=>?_) (fun cm=>?_)
 ·
  have l6:=of_decide_eq_true cm
  have jO:=eV
  rw [cm] at jO
  let aA:Nat × SV:=(12,.v (.bool (decide (v ≥ y4))))
  refine B1 [4,5,6,7,8,9] [] [af,ag,ah,ae,ab,ai,aA] aa jO fun qh jP=>?_
  refine B5 (A4 ?_)
  refine wp_seq (C0 [0,1,2,3,4,5,6,7,8,9,10,11,12,13,14,15,16] kz ?_)
  refine B1 [0,1,2,3] [4,5,6,7,8,9,10,11,12,13,14,15,16] [af,ag,ah,ae,ab,ai,aA,(33,.v (.bool (k1 == 8)))] aa jP fun qi dF=>?_
  refine (Bool.eq_false_or_eq_true (k1 == 8)).elim (fun ar=>?_) (fun ar=>?_)
  ·
   have kd:k1 = 8:=by simpa using ar
   have eW:=dF.cast (env':=[af,ag,ah,ae,ab,ai,aA,(33,.v (.bool true))]) (by simp only [ap,ar]; try rfl)
   refine B1 [4,5,6,7,8,9,10,11,12,13,14,15,16] [] bo aa eW fun l7 cq=>?_
   refine B5 (A4 ?_)
   refine D4 cq (b:=!(aD == (z2 k1 y2 y3 y4 y5 y6 y7 l8 v al ac au av aw))) kz (fun cr=>?_) (fun cr=>?_)
   ·
    have ke:!(aD = (Fld.nul (Fld.mk k1 y2 y3 y4 y5 y6 y7 l8) v (Tree.mk al ac au av aw))):=by simpa using cr
    refine B7 [bu] aa cq fun l9 eX=>?_
    refine wp_ret (D6 (C8 eX aa.cells (v:=.bool false) kz ?_))
    first
     | exact (DC hq ‹_› ‹_›).elim
     | exact (DD hq ‹_› ‹_›).elim
     | exact (Z9 hq ‹_› ‹_› ‹_›).elim
   have kf:!(aD ≠ (Fld.nul (Fld.mk k1 y2 y3 y4 y5 y6 y7 l8) v (Tree.mk al ac au av aw))):=by simpa using cr
   refine wp_skip (A4 (wp_seq (B7 aE aa cq fun ma cu=>?_)))
   refine D4 cu (b:=Fld.nul (Fld.mk k1 y2 y3 y4 y5 y6 y7 l8) v (Tree.mk al ac au av aw)) kz (fun eY=>?_) (fun eY=>?_)
   ·
    refine B7 [az] aa cu fun mc eZ=>?_
    refine wp_ret (D6 (C8 eZ aa.cells (v:=.bool true) kz ?_))
    exact ⟨rfl,aa.step⟩
   refine wp_skip (A4 (wp_seq (B7 aF aa cu fun md e9=>?_)))
   refine wp_block (wp_seq (B7 ap aa e9 fun me cw=>?_))
   refine I7 cw (b:=k1 == 8) kz (ar) ?_
   refine wp_skip (A4 (I7 cw (b:=k1 == 8) kz (ar) ?_))
   refine G0 6 kz aa fun mf kg bI fb=>?_
   refine C7 [0,1,2,3] aG 3 (A5 (B6 (A5 B8))) (fun _ h=>h.cells) fb cw fun mg fe=>?_
   have jQ:=J7 ac
   refine C2 (i:=4) kz (D3 fe (f:=30) (vs:=[ao]) (d:=57) kz Tryz.call30 (V2 _ _ ac (aV.move bI.step A7 bI.imm).le _) ?_)
   rintro e_ mh ⟨rfl,dG⟩
   refine ⟨_,rfl,fun mj ff=>?_⟩
   have aH:=bI.next_nil dG
   have dH:=bI.frN dG
   have fg:=TT.ofW dH aH
   refine ⟨fun _=>fg,?_⟩
   refine C2 (i:=5) kz (D3 ff (f:=29) (vs:=[aj,.slice bj ((C5 ac).length) bk]) (d:=58) kz Tryz.call29 (Q9 _ _ _ _ am (C5 ac) _ _ ((bZ.move aH.step A7 aH.imm).move (Step.refl _ C1) A7 I2) (((aV.take 32767).move aH.step A7 aH.imm).move (Step.refl _ C1) A7 I2)) ?_)
   rintro e_ ml ⟨rfl,dI⟩
   refine ⟨_,rfl,fun mn fh=>?_⟩
   have bJ:=aH.next_nil dI
   have fi:=aH.frN dI
   have fj:=TT.ofW (dH.trans fi) bJ
   refine ⟨fun _=>fj,?_⟩
   refine C2 (i:=6) kz (L4 [10] bJ.cells fh (env':=[(10,.v (.bool (decide (am = (C5 ac)))))]) kz fun mo fk=>?_)
   refine ⟨fun h=>absurd rfl h,?_⟩
   refine E5 kz ?_ _
   refine A4 (wp_ret (F3 (D6 (C8 fk bJ.cells (v:=.bool (decide (am = (C5 ac)))) kz ?_))))
   refine ⟨congrArg (fun b_=>Ending.returned (Value.bool b_)) ?_,bJ.step⟩
   first
    | exact R4 hq ‹_› ‹_›
    | exact R5 hq ‹_› ‹_›
    | exact K6 hq ‹_› ‹_›
    | exact K7 hq ‹_› ‹_› ‹_› ‹_› ‹_› ‹_›
  have kh:k1 ≠ 8:=by simpa using ar
  have fm:=dF.cast (env':=[af,ag,ah,ae,ab,ai,aA,(33,.v (.bool false))]) (by simp only [ap,ar]; try rfl)
  refine B1 [4,5,6,7,8] [9,10,11,12,13,14,15,16] [af,ag,ah,ae,ab,ai,aA,(38,.v (.bool (k1 == 10)))] aa fm fun mp dJ=>?_
  refine (Bool.eq_false_or_eq_true (k1 == 10)).elim (fun aC=>?_) (fun aC=>?_)
  ·
   have ki:k1 = 10:=by simpa using aC
   have fo:=dJ.cast (env':=[af,ag,ah,ae,ab,ai,aA,(38,.v (.bool true))]) (by simp only [ay,aC]; try rfl)
   refine B1 [9,10,11,12,13,14,15,16] [] bo aa fo fun mq cz=>?_
   refine B5 (A4 ?_)
   refine D4 cz (b:=!(aD == (z2 k1 y2 y3 y4 y5 y6 y7 l8 v al ac au av aw))) kz (fun cA=>?_) (fun cA=>?_)
   ·
    have kj:!(aD = (Fld.nul (Fld.mk k1 y2 y3 y4 y5 y6 y7 l8) v (Tree.mk al ac au av aw))):=by simpa using cA
    refine B7 [bu] aa cz fun mr fq=>?_
    refine wp_ret (D6 (C8 fq aa.cells (v:=.bool false) kz ?_))
    first
     | exact (DC hq ‹_› ‹_›).elim
     | exact (DD hq ‹_› ‹_›).elim
     | exact (Z9 hq ‹_› ‹_› ‹_›).elim
   have km:!(aD ≠ (Fld.nul (Fld.mk k1 y2 y3 y4 y5 y6 y7 l8) v (Tree.mk al ac au av aw))):=by simpa using cA
   refine wp_skip (A4 (wp_seq (B7 aE aa cz fun mt cB=>?_)))
   refine D4 cB (b:=Fld.nul (Fld.mk k1 y2 y3 y4 y5 y6 y7 l8) v (Tree.mk al ac au av aw)) kz (fun fr=>?_) (fun fr=>?_)
   ·
    refine B7 [az] aa cB fun mu ft=>?_
    refine wp_ret (D6 (C8 ft aa.cells (v:=.bool true) kz ?_))
    exact ⟨rfl,aa.step⟩
   refine wp_skip (A4 (wp_seq (B7 aF aa cB fun mw fv=>?_)))
   refine wp_block (wp_seq (B7 ap aa fv fun mx dK=>?_))
   refine E6 dK (b:=k1 == 8) kz (ar) ?_
   refine D7 [0,1] kz ?_
   refine B1 [0,1] [] bq aa dK fun my cC=>?_
   refine B5 (A4 ?_)
   refine D4 cC (b:=k1 == 9) kz (fun cD=>?_) (fun cD=>?_)
   ·
    have ko:k1 = 9:=by simpa using cD
    refine G0 6 kz aa fun mz kp bK fw=>?_
    refine C7 [0,1,2,3] aG 3 (A5 (B6 (A5 B8))) (fun _ h=>h.cells) fw cC fun mA fx=>?_
    have jR:=J7 ac
    refine C2 (i:=4) kz (D3 fx (f:=30) (vs:=[ao]) (d:=57) kz Tryz.call30 (V2 _ _ ac (aV.move bK.step A7 bK.imm).le _) ?_)
    rintro e_ mB ⟨rfl,dL⟩
    refine ⟨_,rfl,fun mC fy=>?_⟩
    have aI:=bK.next_nil dL
    have dM:=bK.frN dL
    have fz:=TT.ofW dM aI
    refine ⟨fun _=>fz,?_⟩
    refine C2 (i:=5) kz (D3 fy (f:=29) (vs:=[aj,.slice bj ((C5 ac).length) bk]) (d:=58) kz Tryz.call29 (Q9 _ _ _ _ am (C5 ac) _ _ ((bZ.move aI.step A7 aI.imm).move (Step.refl _ C1) A7 I2) (((aV.take 32767).move aI.step A7 aI.imm).move (Step.refl _ C1) A7 I2)) ?_)
    rintro e_ mD ⟨rfl,dN⟩
    refine ⟨_,rfl,fun mF fA=>?_⟩
    have bL:=aI.next_nil dN
    have fB:=aI.frN dN
    have fC:=TT.ofW (dM.trans fB) bL
    refine ⟨fun _=>fC,?_⟩
    refine C2 (i:=6) kz (L4 [10] bL.cells fA (env':=[(10,.v (.bool (decide (am = (C5 ac)))))]) kz fun mG fD=>?_)
    refine ⟨fun h=>absurd rfl h,?_⟩
    refine E5 kz ?_ _
    refine A4 (wp_ret (F3 (D6 (C8 fD bL.cells (v:=.bool (decide (am = (C5 ac)))) kz ?_))))
    refine ⟨congrArg (fun b_=>Ending.returned (Value.bool b_)) ?_,bL.step⟩
    first
     | exact R4 hq ‹_› ‹_›
     | exact R5 hq ‹_› ‹_›
     | exact K6 hq ‹_› ‹_›
     | exact K7 hq ‹_› ‹_› ‹_› ‹_› ‹_› ‹_›
   have kq:k1 ≠ 9:=by simpa using cD
   refine B7 bt aa cC fun mH cE=>?_
   refine D4 cE (b:=k1 == 7) kz (fun cG=>?_) (fun cG=>?_)
   ·
    have ku:k1 = 7:=by simpa using cG
    refine C0 [0,1] kz ?_
    refine B2 (BC aa cE (d:=61) (j:=16) (t:=22) (e:=5) (bytes:=1) (z:=.int .u8 0) kz kz kz kz (rfl) (rfl) (by omega) fun aQ mI mJ kv kw kx bx fE=>?_)
    let cH:Nat × SV:=(13,.v (.slice (some ⟨aQ,0,none⟩) 16 16))
    refine B1 [1] [] [ae,ab,cH] bx fE fun mK fF=>?_
    refine B5 (A4 ?_)
    refine C0 [0,1,2,3] kz ?_
    let dO:Nat × SV:=(62,.v (.slice (some ⟨aQ,0,none⟩) 16 16))
    refine B1 [0,1,2] [3] [ab,cH,dO,ak] bx fF fun mL fG=>?_
    refine B2 (Cj bx fG (k:=0) (d:=65) (t:=22) (u:=22) (e:=5) (bytes:=1) (A:=(some ⟨aQ,0,none⟩)) (As:=bj) (m:=ac.length) (cs:=bk) (m0:=16) (c:=16) (xs:=(List.replicate 16 (.int .u8 0))) (news:=bc ac) kz kz rfl (aV.move bx.step A7 bx.imm).src fun mM mN ky fH fI=>?_)
    have fJ:(⟨(some ⟨aQ,0,none⟩),16,5,1,16,H8 (List.replicate 16 (.int .u8 0)) 0 ((bc ac).take (min ac.length 16))⟩:Rw) = B4 (some ⟨aQ,0,none⟩) 16 5 (G1 ac):=Ck _ _ _
    obtain ⟨ba,kA⟩:=fH.rowEq 0 [B4 (some ⟨aQ,0,none⟩) 16 5 (G1 ac)] fJ
    have fK:=EnvOk.pick fI (ks:=[9,13,62,64,65]) (env':=[ab,cH,dO,ak,(65,.v (.int .i64 ((min ac.length 16:Nat):Int)))]) kz
    have fL:=fK.cast (env':=[ab,(13,.v (.slice (some ⟨aQ,0,none⟩) ((G1 ac).length) 16)),(62,.v (.slice (some ⟨aQ,0,none⟩) ((G1 ac).length) 16)),ak,(65,.v (.int .i64 ((min ac.length 16:Nat):Int)))]) (by rw [P9 _])
    refine B5 (A4 ?_)
    refine C0 [0,1,2,3,4] kz ?_
    refine B1 [0,1,2] [3,4] [bw,(68,.v (.slice (some ⟨aQ,0,none⟩) ((G1 ac).length) 16))] ba fL fun mO fM=>?_
    refine B2 (D3 fM (f:=29) (vs:=[aj,.slice (some ⟨aQ,0,none⟩) ((G1 ac).length) 16]) (d:=69) kz Tryz.call29 (Q9 _ _ _ _ am (G1 ac) _ _ ((bZ.move ba.step A7 ba.imm).move (Step.refl _ C1) A7 I2) (R7 (ba.own 0 _ rfl) (by first | omega | (rw [P9]; decide) | (simp only [be_length]; exact Nat.le_trans (P7 _) (by decide)) | (have:=hroom; omega) | (have:=hmade; omega) | (simp only [List.length_append,List.length_nil]; omega)) (F:=fun _ _=>True) (fun _ _ _=>trivial))) ?_)
    rintro e_ mQ ⟨rfl,dP⟩
    refine ⟨_,rfl,fun mR fN=>?_⟩
    have cI:=ba.next_nil dP
    have kB:=ba.frN dP
    refine B1 [4] [] [(10,.v (.bool (decide (am = G1 ac))))] cI fN fun mS fO=>?_
    refine B5 (A4 ?_)
    refine wp_ret (F3 (D6 (C8 fO cI.cells (v:=.bool (decide (am = G1 ac))) kz ?_)))
    refine ⟨congrArg (fun b_=>Ending.returned (Value.bool b_)) ?_,cI.step⟩
    first
     | exact R4 hq ‹_› ‹_›
     | exact R5 hq ‹_› ‹_›
     | exact K6 hq ‹_› ‹_›
     | exact K7 hq ‹_› ‹_› ‹_› ‹_› ‹_› ‹_›
   have kC:k1 ≠ 7:=by simpa using cG
   refine B7 ay aa cE fun mT dQ=>?_
   refine I7 dQ (b:=k1 == 10) kz (aC) ?_
   refine C0 [0,1,2,3,4,5,6,7] kz ?_
   refine B1 [0,1,2,3,4,5] [6,7] dD aa dQ fun mU fP=>?_
   refine B2 (D3 fP (f:=10) (vs:=[bn,.int .i64 v,.bool flex,.agg #[ax,ao,aX,aY,aZ],.agg #[bF,aj,.bool aD,bG,bH]]) (d:=78) kz Tryz.call10 ( hT _ _ l8 _ (Tree.mk al ac au av aw) _ (Tree.mk bE am aD jw jx) _ _ ⟨eS,(jA.move aa.step A7 aa.imm),(fun i_ x_ h_=>((jY i_ x_ h_).move aa.step A7 aa.imm))⟩ (ht.move aa.step A7 aa.imm) (hg.move aa.step A7 aa.imm) hpl (JV hq ‹_› ‹_›)) ?_)
   rintro e_ mV ⟨rfl,dR⟩
   refine ⟨_,rfl,fun mW fQ=>?_⟩
   have cJ:=aa.next_nil dR
   have kD:=aa.frN dR
   refine B1 [7] [] [az] cJ fQ fun mX fR=>?_
   refine B5 (A4 ?_)
   refine wp_ret (F3 (D6 (C8 fR cJ.cells (v:=.bool true) kz ?_)))
   exact ⟨rfl,cJ.step⟩
  have kE:k1 ≠ 10:=by simpa using aC
  have fS:=dJ.cast (env':=[af,ag,ah,ae,ab,ai,aA,(38,.v (.bool false))]) (by simp only [ay,aC]; try rfl)
  refine B1 [9,10,11] [12,13,14,15,16] [af,ag,ah,ae,ab,ai,(41,.v (.bool (decide (v ≥ y4))))] aa fS fun mY dS=>?_
  refine (Bool.eq_false_or_eq_true (decide (v ≥ y4))).elim (fun bz=>?_) (fun bz=>?_)
  ·
   have kF:=of_decide_eq_true bz
   have fT:=dS.cast (env':=[af,ag,ah,ae,ab,ai,(41,.v (.bool true))]) (by simp only [aA,bz]; try rfl)
   refine B1 [12,13,14,15,16] [] bo aa fT fun mZ cK=>?_
   refine B5 (A4 ?_)
   refine D4 cK (b:=!(aD == (z2 k1 y2 y3 y4 y5 y6 y7 l8 v al ac au av aw))) kz (fun cL=>?_) (fun cL=>?_)
   ·
    have kG:!(aD = (Fld.nul (Fld.mk k1 y2 y3 y4 y5 y6 y7 l8) v (Tree.mk al ac au av aw))):=by simpa using cL
    refine B7 [bu] aa cK fun m4 fU=>?_
    refine wp_ret (D6 (C8 fU aa.cells (v:=.bool false) kz ?_))
    first
     | exact (DC hq ‹_› ‹_›).elim
     | exact (DD hq ‹_› ‹_›).elim
     | exact (Z9 hq ‹_› ‹_› ‹_›).elim
   have kH:!(aD ≠ (Fld.nul (Fld.mk k1 y2 y3 y4 y5 y6 y7 l8) v (Tree.mk al ac au av aw))):=by simpa using cL
   refine wp_skip (A4 (wp_seq (B7 aE aa cK fun m5 cM=>?_)))
   refine D4 cM (b:=Fld.nul (Fld.mk k1 y2 y3 y4 y5 y6 y7 l8) v (Tree.mk al ac au av aw)) kz (fun fV=>?_) (fun fV=>?_)
   ·
    refine B7 [az] aa cM fun m6 fW=>?_
    refine wp_ret (D6 (C8 fW aa.cells (v:=.bool true) kz ?_))
    exact ⟨rfl,aa.step⟩
   refine wp_skip (A4 (wp_seq (B7 aF aa cM fun m7 fX=>?_)))
   refine wp_block (wp_seq (B7 ap aa fX fun m8 dT=>?_))
   refine E6 dT (b:=k1 == 8) kz (ar) ?_
   refine D7 [0,1] kz ?_
   refine B1 [0,1] [] bq aa dT fun m9 cN=>?_
   refine B5 (A4 ?_)
   refine D4 cN (b:=k1 == 9) kz (fun cO=>?_) (fun cO=>?_)
   ·
    have kI:k1 = 9:=by simpa using cO
    refine G0 6 kz aa fun nf kJ bM fY=>?_
    refine C7 [0,1,2,3] aG 3 (A5 (B6 (A5 B8))) (fun _ h=>h.cells) fY cN fun ng fZ=>?_
    have jS:=J7 ac
    refine C2 (i:=4) kz (D3 fZ (f:=30) (vs:=[ao]) (d:=57) kz Tryz.call30 (V2 _ _ ac (aV.move bM.step A7 bM.imm).le _) ?_)
    rintro e_ nh ⟨rfl,dU⟩
    refine ⟨_,rfl,fun ni f5=>?_⟩
    have aJ:=bM.next_nil dU
    have dV:=bM.frN dU
    have f7:=TT.ofW dV aJ
    refine ⟨fun _=>f7,?_⟩
    refine C2 (i:=5) kz (D3 f5 (f:=29) (vs:=[aj,.slice bj ((C5 ac).length) bk]) (d:=58) kz Tryz.call29 (Q9 _ _ _ _ am (C5 ac) _ _ ((bZ.move aJ.step A7 aJ.imm).move (Step.refl _ C1) A7 I2) (((aV.take 32767).move aJ.step A7 aJ.imm).move (Step.refl _ C1) A7 I2)) ?_)
    rintro e_ nj ⟨rfl,dW⟩
    refine ⟨_,rfl,fun nk f8=>?_⟩
    have bN:=aJ.next_nil dW
    have f9:=aJ.frN dW
    have ga:=TT.ofW (dV.trans f9) bN
    refine ⟨fun _=>ga,?_⟩
    refine C2 (i:=6) kz (L4 [10] bN.cells f8 (env':=[(10,.v (.bool (decide (am = (C5 ac)))))]) kz fun nl gb=>?_)
    refine ⟨fun h=>absurd rfl h,?_⟩
    refine E5 kz ?_ _
    refine A4 (wp_ret (F3 (D6 (C8 gb bN.cells (v:=.bool (decide (am = (C5 ac)))) kz ?_))))
    refine ⟨congrArg (fun b_=>Ending.returned (Value.bool b_)) ?_,bN.step⟩
    first
     | exact R4 hq ‹_› ‹_›
     | exact R5 hq ‹_› ‹_›
     | exact K6 hq ‹_› ‹_›
     | exact K7 hq ‹_› ‹_› ‹_› ‹_› ‹_› ‹_›
   have kK:k1 ≠ 9:=by simpa using cO
   refine B7 bt aa cN fun nm cP=>?_
   refine D4 cP (b:=k1 == 7) kz (fun cQ=>?_) (fun cQ=>?_)
   ·
    have kL:k1 = 7:=by simpa using cQ
    refine C0 [0,1] kz ?_
    refine B2 (BC aa cP (d:=61) (j:=16) (t:=22) (e:=5) (bytes:=1) (z:=.int .u8 0) kz kz kz kz (rfl) (rfl) (by omega) fun aR np nr kM kN kO bA gc=>?_)
    let cR:Nat × SV:=(13,.v (.slice (some ⟨aR,0,none⟩) 16 16))
    refine B1 [1] [] [ae,ab,cR] bA gc fun ns gd=>?_
    refine B5 (A4 ?_)
    refine C0 [0,1,2,3] kz ?_
    let dX:Nat × SV:=(62,.v (.slice (some ⟨aR,0,none⟩) 16 16))
    refine B1 [0,1,2] [3] [ab,cR,dX,ak] bA gd fun nt ge=>?_
    refine B2 (Cj bA ge (k:=0) (d:=65) (t:=22) (u:=22) (e:=5) (bytes:=1) (A:=(some ⟨aR,0,none⟩)) (As:=bj) (m:=ac.length) (cs:=bk) (m0:=16) (c:=16) (xs:=(List.replicate 16 (.int .u8 0))) (news:=bc ac) kz kz rfl (aV.move bA.step A7 bA.imm).src fun nu nv kP gg gh=>?_)
    have gi:(⟨(some ⟨aR,0,none⟩),16,5,1,16,H8 (List.replicate 16 (.int .u8 0)) 0 ((bc ac).take (min ac.length 16))⟩:Rw) = B4 (some ⟨aR,0,none⟩) 16 5 (G1 ac):=Ck _ _ _
    obtain ⟨bd,kQ⟩:=gg.rowEq 0 [B4 (some ⟨aR,0,none⟩) 16 5 (G1 ac)] gi
    have gj:=EnvOk.pick gh (ks:=[9,13,62,64,65]) (env':=[ab,cR,dX,ak,(65,.v (.int .i64 ((min ac.length 16:Nat):Int)))]) kz
    have gk:=gj.cast (env':=[ab,(13,.v (.slice (some ⟨aR,0,none⟩) ((G1 ac).length) 16)),(62,.v (.slice (some ⟨aR,0,none⟩) ((G1 ac).length) 16)),ak,(65,.v (.int .i64 ((min ac.length 16:Nat):Int)))]) (by rw [P9 _])
    refine B5 (A4 ?_)
    refine C0 [0,1,2,3,4] kz ?_
    refine B1 [0,1,2] [3,4] [bw,(68,.v (.slice (some ⟨aR,0,none⟩) ((G1 ac).length) 16))] bd gk fun nw gl=>?_
    refine B2 (D3 gl (f:=29) (vs:=[aj,.slice (some ⟨aR,0,none⟩) ((G1 ac).length) 16]) (d:=69) kz Tryz.call29 (Q9 _ _ _ _ am (G1 ac) _ _ ((bZ.move bd.step A7 bd.imm).move (Step.refl _ C1) A7 I2) (R7 (bd.own 0 _ rfl) (by first | omega | (rw [P9]; decide) | (simp only [be_length]; exact Nat.le_trans (P7 _) (by decide)) | (have:=hroom; omega) | (have:=hmade; omega) | (simp only [List.length_append,List.length_nil]; omega)) (F:=fun _ _=>True) (fun _ _ _=>trivial))) ?_)
    rintro e_ nx ⟨rfl,dY⟩
    refine ⟨_,rfl,fun ny gm=>?_⟩
    have cS:=bd.next_nil dY
    have kR:=bd.frN dY
    refine B1 [4] [] [(10,.v (.bool (decide (am = G1 ac))))] cS gm fun nz gn=>?_
    refine B5 (A4 ?_)
    refine wp_ret (F3 (D6 (C8 gn cS.cells (v:=.bool (decide (am = G1 ac))) kz ?_)))
    refine ⟨congrArg (fun b_=>Ending.returned (Value.bool b_)) ?_,cS.step⟩
    first
     | exact R4 hq ‹_› ‹_›
     | exact R5 hq ‹_› ‹_›
     | exact K6 hq ‹_› ‹_›
     | exact K7 hq ‹_› ‹_› ‹_› ‹_› ‹_› ‹_›
   have kS:k1 ≠ 7:=by simpa using cQ
   refine B7 ay aa cP fun nA dZ=>?_
   refine E6 dZ (b:=k1 == 10) kz (aC) ?_
   refine B7 cd aa dZ fun nB d4=>?_
   refine E6 d4 (b:=k1 == 11) kz (by simpa using b8) ?_
   refine wp_skip (F2 (A4 (G0 8 kz aa fun nC kT d5 gp=>?_)))
   refine C7 [0,1,2,3,4,5] ce 3 (A5 B8) (fun _ h=>h.cells) gp d4 fun nD gq=>?_
   refine C2 (i:=6) kz (D3 gq (f:=49) (vs:=[aW,ax]) (d:=122) kz Tryz.call49 (Fo k1 al _) ?_)
   rintro e_ nE ⟨rfl,d6⟩
   refine ⟨_,rfl,fun nF gt=>?_⟩
   have bO:=d5.next_nil d6
   have gv:=d5.frN d6
   have d7:=TT.ofW gv bO
   refine ⟨fun _=>d7,?_⟩
   refine C7 [7] [(123,.v (.bool (bE == (L8 k1 al))))] 1 (A5 B8) (fun _ h=>h.cells) d7 gt fun nG gw=>?_
   refine C2 (i:=8) kz (L4 [10] bO.cells gw (env':=[(10,.v (.bool (bE == (L8 k1 al))))]) kz fun nH gx=>?_)
   refine ⟨fun h=>absurd rfl h,?_⟩
   refine E5 kz ?_ _
   refine A4 (wp_ret (C8 gx bO.cells (v:=.bool (bE == (L8 k1 al))) kz ?_))
   refine ⟨congrArg (fun b_=>Ending.returned (Value.bool b_)) ?_,bO.step⟩
   first
    | exact R4 hq ‹_› ‹_›
    | exact R5 hq ‹_› ‹_›
    | exact K6 hq ‹_› ‹_›
    | exact K7 hq ‹_› ‹_› ‹_› ‹_› ‹_› ‹_›
  have kU:=of_decide_eq_false bz
  have gy:=dS.cast (env':=[af,ag,ah,ae,ab,ai,(41,.v (.bool false))]) (by simp only [aA,bz]; try rfl)
  refine B1 [12,13,14,15,16] [] dE aa gy fun nI d8=>?_
  refine B5 (A4 ?_)
  refine E6 d8 (b:=false) kz rfl ?_
  refine wp_skip (A4 (wp_seq (B7 aE aa d8 fun nJ cT=>?_)))
  refine D4 cT (b:=Fld.nul (Fld.mk k1 y2 y3 y4 y5 y6 y7 l8) v (Tree.mk al ac au av aw)) kz (fun gz=>?_) (fun gz=>?_)
  ·
   refine B7 [az] aa cT fun nK gA=>?_
   refine wp_ret (D6 (C8 gA aa.cells (v:=.bool true) kz ?_))
   exact ⟨rfl,aa.step⟩
  refine wp_skip (A4 (wp_seq (B7 aF aa cT fun nL gB=>?_)))
  refine wp_block (wp_seq (B7 ap aa gB fun nM d9=>?_))
  refine E6 d9 (b:=k1 == 8) kz (ar) ?_
  refine D7 [0,1] kz ?_
  refine B1 [0,1] [] bq aa d9 fun nN cU=>?_
  refine B5 (A4 ?_)
  refine D4 cU (b:=k1 == 9) kz (fun cV=>?_) (fun cV=>?_)
  ·
   have kV:k1 = 9:=by simpa using cV
   refine G0 6 kz aa fun nO kW bP gC=>?_
   refine C7 [0,1,2,3] aG 3 (A5 (B6 (A5 B8))) (fun _ h=>h.cells) gC cU fun nP gD=>?_
   have jT:=J7 ac
   refine C2 (i:=4) kz (D3 gD (f:=30) (vs:=[ao]) (d:=57) kz Tryz.call30 (V2 _ _ ac (aV.move bP.step A7 bP.imm).le _) ?_)
   rintro e_ nQ ⟨rfl,ea⟩
   refine ⟨_,rfl,fun nR gE=>?_⟩
   have aK:=bP.next_nil ea
   have eb:=bP.frN ea
   have gF:=TT.ofW eb aK
   refine ⟨fun _=>gF,?_⟩
   refine C2 (i:=5) kz (D3 gE (f:=29) (vs:=[aj,.slice bj ((C5 ac).length) bk]) (d:=58) kz Tryz.call29 (Q9 _ _ _ _ am (C5 ac) _ _ ((bZ.move aK.step A7 aK.imm).move (Step.refl _ C1) A7 I2) (((aV.take 32767).move aK.step A7 aK.imm).move (Step.refl _ C1) A7 I2)) ?_)
   rintro e_ nS ⟨rfl,ec⟩
   refine ⟨_,rfl,fun nT gG=>?_⟩
   have bQ:=aK.next_nil ec
   have gH:=aK.frN ec
   have gI:=TT.ofW (eb.trans gH) bQ
   refine ⟨fun _=>gI,?_⟩
   refine C2 (i:=6) kz (L4 [10] bQ.cells gG (env':=[(10,.v (.bool (decide (am = (C5 ac)))))]) kz fun nU gJ=>?_)
   refine ⟨fun h=>absurd rfl h,?_⟩
   refine E5 kz ?_ _
   refine A4 (wp_ret (F3 (D6 (C8 gJ bQ.cells (v:=.bool (decide (am = (C5 ac)))) kz ?_))))
   refine ⟨congrArg (fun b_=>Ending.returned (Value.bool b_)) ?_,bQ.step⟩
   first
    | exact R4 hq ‹_› ‹_›
    | exact R5 hq ‹_› ‹_›
    | exact K6 hq ‹_› ‹_›
    | exact K7 hq ‹_› ‹_› ‹_› ‹_› ‹_› ‹_›
  have kX:k1 ≠ 9:=by simpa using cV
  refine B7 bt aa cU fun nV cW=>?_
  refine D4 cW (b:=k1 == 7) kz (fun cX=>?_) (fun cX=>?_)
  ·
   have kY:k1 = 7:=by simpa using cX
   refine C0 [0,1] kz ?_
   refine B2 (BC aa cW (d:=61) (j:=16) (t:=22) (e:=5) (bytes:=1) (z:=.int .u8 0) kz kz kz kz (rfl) (rfl) (by omega) fun aS nW nX kZ k5 k6 bB gK=>?_)
   let cY:Nat × SV:=(13,.v (.slice (some ⟨aS,0,none⟩) 16 16))
   refine B1 [1] [] [ae,ab,cY] bB gK fun nY gL=>?_
   refine B5 (A4 ?_)
   refine C0 [0,1,2,3] kz ?_
   let ee:Nat × SV:=(62,.v (.slice (some ⟨aS,0,none⟩) 16 16))
   refine B1 [0,1,2] [3] [ab,cY,ee,ak] bB gL fun nZ gM=>?_
   refine B2 (Cj bB gM (k:=0) (d:=65) (t:=22) (u:=22) (e:=5) (bytes:=1) (A:=(some ⟨aS,0,none⟩)) (As:=bj) (m:=ac.length) (cs:=bk) (m0:=16) (c:=16) (xs:=(List.replicate 16 (.int .u8 0))) (news:=bc ac) kz kz rfl (aV.move bB.step A7 bB.imm).src fun n0 n4 k7 gN gO=>?_)
   have gP:(⟨(some ⟨aS,0,none⟩),16,5,1,16,H8 (List.replicate 16 (.int .u8 0)) 0 ((bc ac).take (min ac.length 16))⟩:Rw) = B4 (some ⟨aS,0,none⟩) 16 5 (G1 ac):=Ck _ _ _
   obtain ⟨bf,k8⟩:=gN.rowEq 0 [B4 (some ⟨aS,0,none⟩) 16 5 (G1 ac)] gP
   have gQ:=EnvOk.pick gO (ks:=[9,13,62,64,65]) (env':=[ab,cY,ee,ak,(65,.v (.int .i64 ((min ac.length 16:Nat):Int)))]) kz
   have gR:=gQ.cast (env':=[ab,(13,.v (.slice (some ⟨aS,0,none⟩) ((G1 ac).length) 16)),(62,.v (.slice (some ⟨aS,0,none⟩) ((G1 ac).length) 16)),ak,(65,.v (.int .i64 ((min ac.length 16:Nat):Int)))]) (by rw [P9 _])
   refine B5 (A4 ?_)
   refine C0 [0,1,2,3,4] kz ?_
   refine B1 [0,1,2] [3,4] [bw,(68,.v (.slice (some ⟨aS,0,none⟩) ((G1 ac).length) 16))] bf gR fun n5 gS=>?_
   refine B2 (D3 gS (f:=29) (vs:=[aj,.slice (some ⟨aS,0,none⟩) ((G1 ac).length) 16]) (d:=69) kz Tryz.call29 (Q9 _ _ _ _ am (G1 ac) _ _ ((bZ.move bf.step A7 bf.imm).move (Step.refl _ C1) A7 I2) (R7 (bf.own 0 _ rfl) (by first | omega | (rw [P9]; decide) | (simp only [be_length]; exact Nat.le_trans (P7 _) (by decide)) | (have:=hroom; omega) | (have:=hmade; omega) | (simp only [List.length_append,List.length_nil]; omega)) (F:=fun _ _=>True) (fun _ _ _=>trivial))) ?_)
   rintro e_ n8 ⟨rfl,ef⟩
   refine ⟨_,rfl,fun oa gT=>?_⟩
   have cZ:=bf.next_nil ef
   have k9:=bf.frN ef
   refine B1 [4] [] [(10,.v (.bool (decide (am = G1 ac))))] cZ gT fun od gU=>?_
   refine B5 (A4 ?_)
   refine wp_ret (F3 (D6 (C8 gU cZ.cells (v:=.bool (decide (am = G1 ac))) kz ?_)))
   refine ⟨congrArg (fun b_=>Ending.returned (Value.bool b_)) ?_,cZ.step⟩
   first
    | exact R4 hq ‹_› ‹_›
    | exact R5 hq ‹_› ‹_›
    | exact K6 hq ‹_› ‹_›
    | exact K7 hq ‹_› ‹_› ‹_› ‹_› ‹_› ‹_›
  have la:k1 ≠ 7:=by simpa using cX
  refine B7 ay aa cW fun oe eg=>?_
  refine E6 eg (b:=k1 == 10) kz (aC) ?_
  refine B7 cd aa eg fun og eh=>?_
  refine E6 eh (b:=k1 == 11) kz (by simpa using b8) ?_
  refine wp_skip (F2 (A4 (G0 8 kz aa fun oh lb ei gV=>?_)))
  refine C7 [0,1,2,3,4,5] ce 3 (A5 B8) (fun _ h=>h.cells) gV eh fun ol gW=>?_
  refine C2 (i:=6) kz (D3 gW (f:=49) (vs:=[aW,ax]) (d:=122) kz Tryz.call49 (Fo k1 al _) ?_)
  rintro e_ om ⟨rfl,ej⟩
  refine ⟨_,rfl,fun oq gX=>?_⟩
  have bR:=ei.next_nil ej
  have gY:=ei.frN ej
  have ek:=TT.ofW gY bR
  refine ⟨fun _=>ek,?_⟩
  refine C7 [7] [(123,.v (.bool (bE == (L8 k1 al))))] 1 (A5 B8) (fun _ h=>h.cells) ek gX fun ot gZ=>?_
  refine C2 (i:=8) kz (L4 [10] bR.cells gZ (env':=[(10,.v (.bool (bE == (L8 k1 al))))]) kz fun ou hC=>?_)
  refine ⟨fun h=>absurd rfl h,?_⟩
  refine E5 kz ?_ _
  refine A4 (wp_ret (C8 hC bR.cells (v:=.bool (bE == (L8 k1 al))) kz ?_))
  refine ⟨congrArg (fun b_=>Ending.returned (Value.bool b_)) ?_,bR.step⟩
  first
   | exact R4 hq ‹_› ‹_›
   | exact R5 hq ‹_› ‹_›
   | exact K6 hq ‹_› ‹_›
   | exact K7 hq ‹_› ‹_› ‹_› ‹_› ‹_› ‹_›
 have lc:=of_decide_eq_false cm
 have hJ:=eV.cast (env':=[af,ag,ah,ae,ab,ai,(24,.v (.bool false))]) (by rw [cm])
 let aL:Nat × SV:=(12,.v (.bool false))
 refine B1 [4,5,6,7,8,9] [] [af,ag,ah,ae,ab,ai,aL] aa hJ fun ov hK=>?_
 refine B5 (A4 ?_)
 refine wp_seq (C0 [0,1,2,3,4,5,6,7,8,9,10,11,12,13,14,15,16] kz ?_)
 refine B1 [0,1,2,3] [4,5,6,7,8,9,10,11,12,13,14,15,16] [af,ag,ah,ae,ab,ai,aL,(33,.v (.bool (k1 == 8)))] aa hK fun ow em=>?_
 refine (Bool.eq_false_or_eq_true (k1 == 8)).elim (fun aB=>?_) (fun aB=>?_)
 ·
  have ld:k1 = 8:=by simpa using aB
  have hZ:=em.cast (env':=[af,ag,ah,ae,ab,ai,aL,(33,.v (.bool true))]) (by simp only [ap,aB]; try rfl)
  refine B1 [4,5,6,7,8,9,10,11,12,13,14,15,16] [] bo aa hZ fun ox da=>?_
  refine B5 (A4 ?_)
  refine D4 da (b:=!(aD == (z2 k1 y2 y3 y4 y5 y6 y7 l8 v al ac au av aw))) kz (fun db=>?_) (fun db=>?_)
  ·
   have lf:!(aD = (Fld.nul (Fld.mk k1 y2 y3 y4 y5 y6 y7 l8) v (Tree.mk al ac au av aw))):=by simpa using db
   refine B7 [bu] aa da fun oy ia=>?_
   refine wp_ret (D6 (C8 ia aa.cells (v:=.bool false) kz ?_))
   first
    | exact (DC hq ‹_› ‹_›).elim
    | exact (DD hq ‹_› ‹_›).elim
    | exact (Z9 hq ‹_› ‹_› ‹_›).elim
  have lg:!(aD ≠ (Fld.nul (Fld.mk k1 y2 y3 y4 y5 y6 y7 l8) v (Tree.mk al ac au av aw))):=by simpa using db
  refine wp_skip (A4 (wp_seq (B7 aE aa da fun oz dc=>?_)))
  refine D4 dc (b:=Fld.nul (Fld.mk k1 y2 y3 y4 y5 y6 y7 l8) v (Tree.mk al ac au av aw)) kz (fun ib=>?_) (fun ib=>?_)
  ·
   refine B7 [az] aa dc fun oA ic=>?_
   refine wp_ret (D6 (C8 ic aa.cells (v:=.bool true) kz ?_))
   exact ⟨rfl,aa.step⟩
  refine wp_skip (A4 (wp_seq (B7 aF aa dc fun oB ig=>?_)))
  refine wp_block (wp_seq (B7 ap aa ig fun oC de=>?_))
  refine I7 de (b:=k1 == 8) kz (aB) ?_
  refine wp_skip (A4 (I7 de (b:=k1 == 8) kz (aB) ?_))
  refine G0 6 kz aa fun oD lh bS ii=>?_
  refine C7 [0,1,2,3] aG 3 (A5 (B6 (A5 B8))) (fun _ h=>h.cells) ii de fun oE ij=>?_
  have jU:=J7 ac
  refine C2 (i:=4) kz (D3 ij (f:=30) (vs:=[ao]) (d:=57) kz Tryz.call30 (V2 _ _ ac (aV.move bS.step A7 bS.imm).le _) ?_)
  rintro e_ oF ⟨rfl,eo⟩
  refine ⟨_,rfl,fun oG ik=>?_⟩
  have aM:=bS.next_nil eo
  have ep:=bS.frN eo
  have il:=TT.ofW ep aM
  refine ⟨fun _=>il,?_⟩
  refine C2 (i:=5) kz (D3 ik (f:=29) (vs:=[aj,.slice bj ((C5 ac).length) bk]) (d:=58) kz Tryz.call29 (Q9 _ _ _ _ am (C5 ac) _ _ ((bZ.move aM.step A7 aM.imm).move (Step.refl _ C1) A7 I2) (((aV.take 32767).move aM.step A7 aM.imm).move (Step.refl _ C1) A7 I2)) ?_)
  rintro e_ oH ⟨rfl,eu⟩
  refine ⟨_,rfl,fun oI im=>?_⟩
  have bT:=aM.next_nil eu
  have io:=aM.frN eu
  have ip:=TT.ofW (ep.trans io) bT
  refine ⟨fun _=>ip,?_⟩
  refine C2 (i:=6) kz (L4 [10] bT.cells im (env':=[(10,.v (.bool (decide (am = (C5 ac)))))]) kz fun oJ iq=>?_)
  refine ⟨fun h=>absurd rfl h,?_⟩
  refine E5 kz ?_ _
  refine A4 (wp_ret (F3 (D6 (C8 iq bT.cells (v:=.bool (decide (am = (C5 ac)))) kz ?_))))
  refine ⟨congrArg (fun b_=>Ending.returned (Value.bool b_)) ?_,bT.step⟩
  first
   | exact R4 hq ‹_› ‹_›
   | exact R5 hq ‹_› ‹_›
   | exact K6 hq ‹_› ‹_›
   | exact K7 hq ‹_› ‹_› ‹_› ‹_› ‹_› ‹_›
 have li:k1 ≠ 8:=by simpa using aB
 have ir:=em.cast (env':=[af,ag,ah,ae,ab,ai,aL,(33,.v (.bool false))]) (by simp only [ap,aB]; try rfl)
 refine B1 [4,5,6,7,8] [9,10,11,12,13,14,15,16] [af,ag,ah,ae,ab,ai,aL,(38,.v (.bool (k1 == 10)))] aa ir fun oK ev=>?_
 refine (Bool.eq_false_or_eq_true (k1 == 10)).elim (fun aN=>?_) (fun aN=>?_)
 ·
  have lj:k1 = 10:=by simpa using aN
  have iu:=ev.cast (env':=[af,ag,ah,ae,ab,ai,aL,(38,.v (.bool true))]) (by simp only [ay,aN]; try rfl)
  refine B1 [9,10,11,12,13,14,15,16] [] bo aa iu fun oL df=>?_
  refine B5 (A4 ?_)
  refine D4 df (b:=!(aD == (z2 k1 y2 y3 y4 y5 y6 y7 l8 v al ac au av aw))) kz (fun dg=>?_) (fun dg=>?_)
  ·
   have lm:!(aD = (Fld.nul (Fld.mk k1 y2 y3 y4 y5 y6 y7 l8) v (Tree.mk al ac au av aw))):=by simpa using dg
   refine B7 [bu] aa df fun oM iv=>?_
   refine wp_ret (D6 (C8 iv aa.cells (v:=.bool false) kz ?_))
   first
    | exact (DC hq ‹_› ‹_›).elim
    | exact (DD hq ‹_› ‹_›).elim
    | exact (Z9 hq ‹_› ‹_› ‹_›).elim
  have ln:!(aD ≠ (Fld.nul (Fld.mk k1 y2 y3 y4 y5 y6 y7 l8) v (Tree.mk al ac au av aw))):=by simpa using dg
  refine wp_skip (A4 (wp_seq (B7 aE aa df fun oN dh=>?_)))
  refine D4 dh (b:=Fld.nul (Fld.mk k1 y2 y3 y4 y5 y6 y7 l8) v (Tree.mk al ac au av aw)) kz (fun iw=>?_) (fun iw=>?_)
  ·
   refine B7 [az] aa dh fun oO ix=>?_
   refine wp_ret (D6 (C8 ix aa.cells (v:=.bool true) kz ?_))
   exact ⟨rfl,aa.step⟩
  refine wp_skip (A4 (wp_seq (B7 aF aa dh fun oP iy=>?_)))
  refine wp_block (wp_seq (B7 ap aa iy fun oQ ew=>?_))
  refine E6 ew (b:=k1 == 8) kz (aB) ?_
  refine D7 [0,1] kz ?_
  refine B1 [0,1] [] bq aa ew fun oR di=>?_
  refine B5 (A4 ?_)
  refine D4 di (b:=k1 == 9) kz (fun dj=>?_) (fun dj=>?_)
  ·
   have lp:k1 = 9:=by simpa using dj
   refine G0 6 kz aa fun oS lq bU iz=>?_
   refine C7 [0,1,2,3] aG 3 (A5 (B6 (A5 B8))) (fun _ h=>h.cells) iz di fun oT iA=>?_
   have jV:=J7 ac
   refine C2 (i:=4) kz (D3 iA (f:=30) (vs:=[ao]) (d:=57) kz Tryz.call30 (V2 _ _ ac (aV.move bU.step A7 bU.imm).le _) ?_)
   rintro e_ oU ⟨rfl,ey⟩
   refine ⟨_,rfl,fun oV iB=>?_⟩
   have aO:=bU.next_nil ey
   have ez:=bU.frN ey
   have iC:=TT.ofW ez aO
   refine ⟨fun _=>iC,?_⟩
   refine C2 (i:=5) kz (D3 iB (f:=29) (vs:=[aj,.slice bj ((C5 ac).length) bk]) (d:=58) kz Tryz.call29 (Q9 _ _ _ _ am (C5 ac) _ _ ((bZ.move aO.step A7 aO.imm).move (Step.refl _ C1) A7 I2) (((aV.take 32767).move aO.step A7 aO.imm).move (Step.refl _ C1) A7 I2)) ?_)
   rintro e_ oW ⟨rfl,eB⟩
   refine ⟨_,rfl,fun oX iD=>?_⟩
   have bV:=aO.next_nil eB
   have iE:=aO.frN eB
   have iF:=TT.ofW (ez.trans iE) bV
   refine ⟨fun _=>iF,?_⟩
   refine C2 (i:=6) kz (L4 [10] bV.cells iD (env':=[(10,.v (.bool (decide (am = (C5 ac)))))]) kz fun oY iG=>?_)
   refine ⟨fun h=>absurd rfl h,?_⟩
   refine E5 kz ?_ _
   refine A4 (wp_ret (F3 (D6 (C8 iG bV.cells (v:=.bool (decide (am = (C5 ac)))) kz ?_))))
   refine ⟨congrArg (fun b_=>Ending.returned (Value.bool b_)) ?_,bV.step⟩
   first
    | exact R4 hq ‹_› ‹_›
    | exact R5 hq ‹_› ‹_›
    | exact K6 hq ‹_› ‹_›
    | exact K7 hq ‹_› ‹_› ‹_› ‹_› ‹_› ‹_›
  have lr:k1 ≠ 9:=by simpa using dj
  refine B7 bt aa di fun oZ dl=>?_
  refine D4 dl (b:=k1 == 7) kz (fun dp=>?_) (fun dp=>?_)
  ·
   have ls:k1 = 7:=by simpa using dp
   refine C0 [0,1] kz ?_
   refine B2 (BC aa dl (d:=61) (j:=16) (t:=22) (e:=5) (bytes:=1) (z:=.int .u8 0) kz kz kz kz (rfl) (rfl) (by omega) fun aT o5 o6 lu lv lw bC iH=>?_)
   let dq:Nat × SV:=(13,.v (.slice (some ⟨aT,0,none⟩) 16 16))
   refine B1 [1] [] [ae,ab,dq] bC iH fun o7 iI=>?_
   refine B5 (A4 ?_)
   refine C0 [0,1,2,3] kz ?_
   let eC:Nat × SV:=(62,.v (.slice (some ⟨aT,0,none⟩) 16 16))
   refine B1 [0,1,2] [3] [ab,dq,eC,ak] bC iI fun o9 iJ=>?_
   refine B2 (Cj bC iJ (k:=0) (d:=65) (t:=22) (u:=22) (e:=5) (bytes:=1) (A:=(some ⟨aT,0,none⟩)) (As:=bj) (m:=ac.length) (cs:=bk) (m0:=16) (c:=16) (xs:=(List.replicate 16 (.int .u8 0))) (news:=bc ac) kz kz rfl (aV.move bC.step A7 bC.imm).src fun pa pb lx iK iL=>?_)
   have iM:(⟨(some ⟨aT,0,none⟩),16,5,1,16,H8 (List.replicate 16 (.int .u8 0)) 0 ((bc ac).take (min ac.length 16))⟩:Rw) = B4 (some ⟨aT,0,none⟩) 16 5 (G1 ac):=Ck _ _ _
   obtain ⟨bg,ly⟩:=iK.rowEq 0 [B4 (some ⟨aT,0,none⟩) 16 5 (G1 ac)] iM
   have iN:=EnvOk.pick iL (ks:=[9,13,62,64,65]) (env':=[ab,dq,eC,ak,(65,.v (.int .i64 ((min ac.length 16:Nat):Int)))]) kz
   have iO:=iN.cast (env':=[ab,(13,.v (.slice (some ⟨aT,0,none⟩) ((G1 ac).length) 16)),(62,.v (.slice (some ⟨aT,0,none⟩) ((G1 ac).length) 16)),ak,(65,.v (.int .i64 ((min ac.length 16:Nat):Int)))]) (by rw [P9 _])
   refine B5 (A4 ?_)
   refine C0 [0,1,2,3,4] kz ?_
   refine B1 [0,1,2] [3,4] [bw,(68,.v (.slice (some ⟨aT,0,none⟩) ((G1 ac).length) 16))] bg iO fun pc iP=>?_
   refine B2 (D3 iP (f:=29) (vs:=[aj,.slice (some ⟨aT,0,none⟩) ((G1 ac).length) 16]) (d:=69) kz Tryz.call29 (Q9 _ _ _ _ am (G1 ac) _ _ ((bZ.move bg.step A7 bg.imm).move (Step.refl _ C1) A7 I2) (R7 (bg.own 0 _ rfl) (by first | omega | (rw [P9]; decide) | (simp only [be_length]; exact Nat.le_trans (P7 _) (by decide)) | (have:=hroom; omega) | (have:=hmade; omega) | (simp only [List.length_append,List.length_nil]; omega)) (F:=fun _ _=>True) (fun _ _ _=>trivial))) ?_)
   rintro e_ pd ⟨rfl,eD⟩
   refine ⟨_,rfl,fun pe iQ=>?_⟩
   have dr:=bg.next_nil eD
   have lz:=bg.frN eD
   refine B1 [4] [] [(10,.v (.bool (decide (am = G1 ac))))] dr iQ fun pf iR=>?_
   refine B5 (A4 ?_)
   refine wp_ret (F3 (D6 (C8 iR dr.cells (v:=.bool (decide (am = G1 ac))) kz ?_)))
   refine ⟨congrArg (fun b_=>Ending.returned (Value.bool b_)) ?_,dr.step⟩
   first
    | exact R4 hq ‹_› ‹_›
    | exact R5 hq ‹_› ‹_›
    | exact K6 hq ‹_› ‹_›
    | exact K7 hq ‹_› ‹_› ‹_› ‹_› ‹_› ‹_›
  have lA:k1 ≠ 7:=by simpa using dp
  refine B7 ay aa dl fun pg eE=>?_
  refine I7 eE (b:=k1 == 10) kz (aN) ?_
  refine C0 [0,1,2,3,4,5,6,7] kz ?_
  refine B1 [0,1,2,3,4,5] [6,7] dD aa eE fun ph iS=>?_
  refine B2 (D3 iS (f:=10) (vs:=[bn,.int .i64 v,.bool flex,.agg #[ax,ao,aX,aY,aZ],.agg #[bF,aj,.bool aD,bG,bH]]) (d:=78) kz Tryz.call10 ( hT _ _ l8 _ (Tree.mk al ac au av aw) _ (Tree.mk bE am aD jw jx) _ _ ⟨eS,(jA.move aa.step A7 aa.imm),(fun i_ x_ h_=>((jY i_ x_ h_).move aa.step A7 aa.imm))⟩ (ht.move aa.step A7 aa.imm) (hg.move aa.step A7 aa.imm) hpl (JV hq ‹_› ‹_›)) ?_)
  rintro e_ pi ⟨rfl,eF⟩
  refine ⟨_,rfl,fun pj iT=>?_⟩
  have dt:=aa.next_nil eF
  have lB:=aa.frN eF
  refine B1 [7] [] [az] dt iT fun pl iU=>?_
  refine B5 (A4 ?_)
  refine wp_ret (F3 (D6 (C8 iU dt.cells (v:=.bool true) kz ?_)))
  exact ⟨rfl,dt.step⟩
 have lC:k1 ≠ 10:=by simpa using aN
 have iV:=ev.cast (env':=[af,ag,ah,ae,ab,ai,aL,(38,.v (.bool false))]) (by simp only [ay,aN]; try rfl)
 refine B1 [9,10,11,12,13,14,15,16] [] dE aa iV fun pm eG=>?_
 refine B5 (A4 ?_)
 refine E6 eG (b:=false) kz rfl ?_
 refine wp_skip (A4 (wp_seq (B7 aE aa eG fun pn du=>?_)))
 refine D4 du (b:=Fld.nul (Fld.mk k1 y2 y3 y4 y5 y6 y7 l8) v (Tree.mk al ac au av aw)) kz (fun iW=>?_) (fun iW=>?_)
 ·
  refine B7 [az] aa du fun po iX=>?_
  refine wp_ret (D6 (C8 iX aa.cells (v:=.bool true) kz ?_))
  exact ⟨rfl,aa.step⟩
 refine wp_skip (A4 (wp_seq (B7 aF aa du fun pp iY=>?_)))
 refine wp_block (wp_seq (B7 ap aa iY fun pq eH=>?_))
 refine E6 eH (b:=k1 == 8) kz (aB) ?_
 refine D7 [0,1] kz ?_
 refine B1 [0,1] [] bq aa eH fun pr dv=>?_
 refine B5 (A4 ?_)
 refine D4 dv (b:=k1 == 9) kz (fun dw=>?_) (fun dw=>?_)
 ·
  have lD:k1 = 9:=by simpa using dw
  refine G0 6 kz aa fun pt lE bW iZ=>?_
  refine C7 [0,1,2,3] aG 3 (A5 (B6 (A5 B8))) (fun _ h=>h.cells) iZ dv fun pu i6=>?_
  have jW:=J7 ac
  refine C2 (i:=4) kz (D3 i6 (f:=30) (vs:=[ao]) (d:=57) kz Tryz.call30 (V2 _ _ ac (aV.move bW.step A7 bW.imm).le _) ?_)
  rintro e_ pv ⟨rfl,eI⟩
  refine ⟨_,rfl,fun pw i7=>?_⟩
  have aP:=bW.next_nil eI
  have eJ:=bW.frN eI
  have ja:=TT.ofW eJ aP
  refine ⟨fun _=>ja,?_⟩
  refine C2 (i:=5) kz (D3 i7 (f:=29) (vs:=[aj,.slice bj ((C5 ac).length) bk]) (d:=58) kz Tryz.call29 (Q9 _ _ _ _ am (C5 ac) _ _ ((bZ.move aP.step A7 aP.imm).move (Step.refl _ C1) A7 I2) (((aV.take 32767).move aP.step A7 aP.imm).move (Step.refl _ C1) A7 I2)) ?_)
  rintro e_ px ⟨rfl,eK⟩
  refine ⟨_,rfl,fun pz jb=>?_⟩
  have bX:=aP.next_nil eK
  have jc:=aP.frN eK
  have jd:=TT.ofW (eJ.trans jc) bX
  refine ⟨fun _=>jd,?_⟩
  refine C2 (i:=6) kz (L4 [10] bX.cells jb (env':=[(10,.v (.bool (decide (am = (C5 ac)))))]) kz fun pA je=>?_)
  refine ⟨fun h=>absurd rfl h,?_⟩
  refine E5 kz ?_ _
  refine A4 (wp_ret (F3 (D6 (C8 je bX.cells (v:=.bool (decide (am = (C5 ac)))) kz ?_))))
  refine ⟨congrArg (fun b_=>Ending.returned (Value.bool b_)) ?_,bX.step⟩
  first
   | exact R4 hq ‹_› ‹_›
   | exact R5 hq ‹_› ‹_›
   | exact K6 hq ‹_› ‹_›
   | exact K7 hq ‹_› ‹_› ‹_› ‹_› ‹_› ‹_›
 have lF:k1 ≠ 9:=by simpa using dw
 refine B7 bt aa dv fun pB dx=>?_
 refine D4 dx (b:=k1 == 7) kz (fun dy=>?_) (fun dy=>?_)
 ·
  have lG:k1 = 7:=by simpa using dy
  refine C0 [0,1] kz ?_
  refine B2 (BC aa dx (d:=61) (j:=16) (t:=22) (e:=5) (bytes:=1) (z:=.int .u8 0) kz kz kz kz (rfl) (rfl) (by omega) fun aU pC pD lH lI lJ bD jf=>?_)
  let dA:Nat × SV:=(13,.v (.slice (some ⟨aU,0,none⟩) 16 16))
  refine B1 [1] [] [ae,ab,dA] bD jf fun pE jg=>?_
  refine B5 (A4 ?_)
  refine C0 [0,1,2,3] kz ?_
  let eL:Nat × SV:=(62,.v (.slice (some ⟨aU,0,none⟩) 16 16))
  refine B1 [0,1,2] [3] [ab,dA,eL,ak] bD jg fun pF jh=>?_
  refine B2 (Cj bD jh (k:=0) (d:=65) (t:=22) (u:=22) (e:=5) (bytes:=1) (A:=(some ⟨aU,0,none⟩)) (As:=bj) (m:=ac.length) (cs:=bk) (m0:=16) (c:=16) (xs:=(List.replicate 16 (.int .u8 0))) (news:=bc ac) kz kz rfl (aV.move bD.step A7 bD.imm).src fun pG pH lK ji jj=>?_)
  have jk:(⟨(some ⟨aU,0,none⟩),16,5,1,16,H8 (List.replicate 16 (.int .u8 0)) 0 ((bc ac).take (min ac.length 16))⟩:Rw) = B4 (some ⟨aU,0,none⟩) 16 5 (G1 ac):=Ck _ _ _
  obtain ⟨bh,lL⟩:=ji.rowEq 0 [B4 (some ⟨aU,0,none⟩) 16 5 (G1 ac)] jk
  have jl:=EnvOk.pick jj (ks:=[9,13,62,64,65]) (env':=[ab,dA,eL,ak,(65,.v (.int .i64 ((min ac.length 16:Nat):Int)))]) kz
  have jm:=jl.cast (env':=[ab,(13,.v (.slice (some ⟨aU,0,none⟩) ((G1 ac).length) 16)),(62,.v (.slice (some ⟨aU,0,none⟩) ((G1 ac).length) 16)),ak,(65,.v (.int .i64 ((min ac.length 16:Nat):Int)))]) (by rw [P9 _])
  refine B5 (A4 ?_)
  refine C0 [0,1,2,3,4] kz ?_
  refine B1 [0,1,2] [3,4] [bw,(68,.v (.slice (some ⟨aU,0,none⟩) ((G1 ac).length) 16))] bh jm fun pI jn=>?_
  refine B2 (D3 jn (f:=29) (vs:=[aj,.slice (some ⟨aU,0,none⟩) ((G1 ac).length) 16]) (d:=69) kz Tryz.call29 (Q9 _ _ _ _ am (G1 ac) _ _ ((bZ.move bh.step A7 bh.imm).move (Step.refl _ C1) A7 I2) (R7 (bh.own 0 _ rfl) (by first | omega | (rw [P9]; decide) | (simp only [be_length]; exact Nat.le_trans (P7 _) (by decide)) | (have:=hroom; omega) | (have:=hmade; omega) | (simp only [List.length_append,List.length_nil]; omega)) (F:=fun _ _=>True) (fun _ _ _=>trivial))) ?_)
  rintro e_ pJ ⟨rfl,eM⟩
  refine ⟨_,rfl,fun pK jo=>?_⟩
  have dB:=bh.next_nil eM
  have lM:=bh.frN eM
  refine B1 [4] [] [(10,.v (.bool (decide (am = G1 ac))))] dB jo fun pL jp=>?_
  refine B5 (A4 ?_)
  refine wp_ret (F3 (D6 (C8 jp dB.cells (v:=.bool (decide (am = G1 ac))) kz ?_)))
  refine ⟨congrArg (fun b_=>Ending.returned (Value.bool b_)) ?_,dB.step⟩
  first
   | exact R4 hq ‹_› ‹_›
   | exact R5 hq ‹_› ‹_›
   | exact K6 hq ‹_› ‹_›
   | exact K7 hq ‹_› ‹_› ‹_› ‹_› ‹_› ‹_›
 have lN:k1 ≠ 7:=by simpa using dy
 refine B7 ay aa dx fun pM eN=>?_
 refine E6 eN (b:=k1 == 10) kz (aN) ?_
 refine B7 cd aa eN fun pN eO=>?_
 refine E6 eO (b:=k1 == 11) kz (by simpa using b8) ?_
 refine wp_skip (F2 (A4 (G0 8 kz aa fun pO lO eP jq=>?_)))
 refine C7 [0,1,2,3,4,5] ce 3 (A5 B8) (fun _ h=>h.cells) jq eO fun pP jr=>?_
 refine C2 (i:=6) kz (D3 jr (f:=49) (vs:=[aW,ax]) (d:=122) kz Tryz.call49 (Fo k1 al _) ?_)
 rintro e_ pQ ⟨rfl,eQ⟩
 refine ⟨_,rfl,fun pR js=>?_⟩
 have bY:=eP.next_nil eQ
 have jt:=eP.frN eQ
 have eR:=TT.ofW jt bY
 refine ⟨fun _=>eR,?_⟩
 refine C7 [7] [(123,.v (.bool (bE == (L8 k1 al))))] 1 (A5 B8) (fun _ h=>h.cells) eR js fun pS ju=>?_
 refine C2 (i:=8) kz (L4 [10] bY.cells ju (env':=[(10,.v (.bool (bE == (L8 k1 al))))]) kz fun pT jv=>?_)
 refine ⟨fun h=>absurd rfl h,?_⟩
 refine E5 kz ?_ _
 refine A4 (wp_ret (C8 jv bY.cells (v:=.bool (bE == (L8 k1 al))) kz ?_))
 refine ⟨congrArg (fun b_=>Ending.returned (Value.bool b_)) ?_,bY.step⟩
 first
  | exact R4 hq ‹_› ‹_›
  | exact R5 hq ‹_› ‹_›
  | exact K6 hq ‹_› ‹_›
  | exact K7 hq ‹_› ‹_› ‹_› ‹_› ‹_› ‹_›
theorem Pe {v:Int} {flex:Bool} {T:List Fld → Tree → Tree → Prop} (hT:W1 v flex T) (cf:List Value) (f:Fld) (ct:List Value) (t:Tree) (cg:List Value) (g:Tree) (w:World) (F:Nat → Nat → Prop) (hf:FldR w F cf f) (hpl:f.plain) (ak:f.kind = 11) (ht:TreeR w F ct t) (hg:TreeR w F cg g) (hQ:Bn T v f t g) :
  Calls Tryz.prog 26 #[.agg cf.toArray,.int .i64 v,.bool flex,.agg ct.toArray,.agg cg.toArray] w (L5 w (.bool true)):=by
 obtain ⟨k1,y2,y3,y4,y5,y6,y7,l8,A9,ji,eF,rfl,rfl,jg,jj⟩:=hf.open_
 have kj:=jg.small
 obtain ⟨bh,bj,aW,ae,bk,lR,lS,aw,ax,lT,lU,lV,rfl,rfl,lW,eG,jk,pi⟩:=ht.open_
 have km:=lW.small
 have ko:=eG.small
 obtain ⟨kp,kq,e9,aD,ku,kv,kw,fb,jl,kx,ky,lX,rfl,rfl,lY,jh,jm,pj⟩:=hg.open_
 have kA:=lY.small
 have kB:=jh.small
 have ak:k1 = 11:=ak
 have hof:y7 ≠ 11:=hpl.1
 replace hpl:plains l8:=hpl.2
 have hq:=hQ.1
 refine enter (n:=124) Tryz.func26 rfl Tryz.ntmps26 kz fun a hE=>?_
 have hW:=WOk.start w C1
 refine C0 [0,1,2,3] kz ?_
 let aE:Value:=.int .i64 k1
 let al:Value:=.int .i64 y2
 let am:Value:=.int .i64 y3
 let aC:Value:=.int .i64 y4
 let ay:Value:=.int .i64 y5
 let ao:Value:=.int .i64 y6
 let af:Value:=.int .i64 y7
 let ap:Value:=.slice A9 l8.length ji
 refine B2 (K9 hW hE (d:=5) (cs:=[aE,al,am,aC,ay,ao,af,ap]) kz fun lZ pl pm l0 l3 l5 jn jo=>?_)
 let aX:Value:=.int .i64 bh
 let aY:Value:=.slice lR bj.length lS
 let aF:Value:=.slice aw ae.length ax
 let aZ:Value:=.slice lT bk.length lU
 refine B2 (K9 jn jo (d:=8) (cs:=[aX,aY,.bool aW,aF,aZ]) kz fun l6 pn po l7 l9 ma jp jq=>?_)
 refine B2 (K9 jp jq (d:=9) (cs:=[.int .i64 kp,.slice kv kq.length kw,.bool e9,.slice fb aD.length jl,.slice kx ku.length ky]) kz fun mc pp pq md me mf dB jr=>?_)
 let aa:Nat × SV:=(1,.v (.int .i64 v))
 let ab:Nat × SV:=(2,.v (.bool flex))
 let ah:Nat × SV:=(5,.p 0 0)
 let aj:Nat × SV:=(8,.p 1 0)
 let ac:Nat × SV:=(9,.p 2 0)
 refine B1 [3] [] [aa,ab,ah,aj,ac] dB jr fun pr js=>?_
 refine B5 (A4 ?_)
 refine C0 [0,1,2,3,4] kz ?_
 let kC:Value:=(.agg #[.int .i64 k1,.int .i64 y2,.int .i64 y3,.int .i64 y4,.int .i64 y5,.int .i64 y6,.int .i64 y7,.slice A9 l8.length ji])
 refine B1 [0,1,2] [3,4] [aa,ab,ah,aj,ac,(17,.v (.agg #[aE,al,am,aC,ay,ao,af,ap])),(18,.v (.int .i64 v)),(19,.v (.agg #[aX,aY,.bool aW,aF,aZ]))] dB js fun pt jt=>?_
 refine B2 (D3 jt (f:=47) (vs:=[.agg #[aE,al,am,aC,ay,ao,af,ap],.int .i64 v,.agg #[aX,aY,.bool aW,aF,aZ]]) (d:=20) kz Tryz.call47 (Gn k1 y2 y3 y4 y5 y6 y7 l8 _ _ v bh bj aW ae bk _ _ _ _ _ _ _) ?_)
 rintro e_ pu ⟨rfl,fe⟩
 refine ⟨_,rfl,fun pv ju=>?_⟩
 have ag:=dB.next_nil fe
 have mg:=dB.frN fe
 let av:Nat × SV:=(11,.v (.bool (z2 k1 y2 y3 y4 y5 y6 y7 l8 v bh bj aW ae bk)))
 refine B1 [4] [] [aa,ab,ah,aj,ac,av] ag ju fun pw jv=>?_
 refine B5 (A4 ?_)
 refine C0 [0,1,2,3,4,5,6,7,8,9] kz ?_
 refine B1 [0,1,2,3] [4,5,6,7,8,9] [aa,ab,ah,aj,ac,av,(24,.v (.bool (decide (y4 ≥ 0))))] ag jv fun px ff=>?_
 let bn:Ob:=⟨lZ,0,[aE,al,am,aC,ay,ao,af,ap],true⟩
 let bo:Ob:=⟨l6,0,[aX,aY,.bool aW,aF,aZ],true⟩
 let bp:Ob:=⟨mc,0,[.int .i64 kp,.slice kv kq.length kw,.bool e9,.slice fb aD.length jl,.slice kx ku.length ky],true⟩
 let bq:C6:=[aa,ab,ah,aj,ac,(47,.v (.bool (z2 k1 y2 y3 y4 y5 y6 y7 l8 v bh bj aW ae bk)))]
 let aO:Nat × SV:=(49,.v (.int .i64 k1))
 let bt:C6:=[aa,ab,ah,aj,ac,aO]
 let aP:C6:=[aa,ab,ah,aj,ac,aO,(50,.v (.bool (k1 == 8)))]
 let bu:C6:=[aa,ab,ah,aj,ac,aO,(50,.v (.bool (k1 == 9)))]
 let bw:C6:=[aa,ab,ah,aj,ac,aO,(59,.v (.bool (k1 == 7)))]
 let aQ:C6:=[aa,ab,ah,aj,ac,aO,(70,.v (.bool (k1 == 10)))]
 let bx:C6:=[aa,ab,ah,aj,ac,(79,.v (.bool (k1 == 11)))]
 let bz:C6:=[aa,ab,ah,ac,(82,.v (.slice aw ae.length ax))]
 let dC:C6:=[aa,ab,ah,aj,ac,av,(46,.v (.bool false))]
 let ba:Nat × SV:=(10,.v (.bool false))
 let aH:Nat × SV:=(10,.v (.bool true))
 let bA:Nat × SV:=(90,.v (.agg #[aE,al,am,aC,ay,ao,af,ap]))
 let ai:Nat × SV:=(15,.p 3 0)
 let bB:Nat × SV:=(92,.v (.int .i64 y7))
 let bC:Nat × SV:=(98,.v (.int .i64 0))
 let ar:Value:=.int .i64 (-1)
 let bD:Nat × SV:=(101,.v (.agg #[af,al,am,ar,ar,ao,af,ap]))
 let bE:Nat × SV:=(102,.v (.int .i64 v))
 let bF:Nat × SV:=(103,.v (.bool flex))
 let bG:Nat × SV:=(109,.v (.slice fb aD.length jl))
 let bH:Nat × SV:=(114,.v (.bool false))
 let au:Value:=.int .i64 0
 let kD:Value:=.agg #[.int .i64 y7,.int .i64 y2,.int .i64 y3,.int .i64 (-1),.int .i64 (-1),.int .i64 y6,.int .i64 y7,.slice A9 l8.length ji]
 refine (Bool.eq_false_or_eq_true (decide (y4 ≥ 0))).elim (fun bI=>?_) (fun bI=>?_)
 ·
  have mh:=of_decide_eq_true bI
  have jw:=ff
  rw [bI] at jw
  let aG:Nat × SV:=(12,.v (.bool (decide (v ≥ y4))))
  refine B1 [4,5,6,7,8,9] [] [aa,ab,ah,aj,ac,av,aG] ag jw fun pz jx=>?_
  refine B5 (A4 ?_)
  refine wp_seq (C0 [0,1,2,3,4,5,6,7,8,9,10,11,12,13,14,15,16] kz ?_)
  refine B1 [0,1,2,3] [4,5,6,7,8,9,10,11,12,13,14,15,16] [aa,ab,ah,aj,ac,av,aG,(33,.v (.bool (k1 == 8)))] ag jx fun pA fg=>?_
  have fh:(k1 == 8) = false:=by simp [ak]
  have fi:=fg.cast (env':=[aa,ab,ah,aj,ac,av,aG,(33,.v (.bool false))]) (by simp only [aP,fh]; try rfl)
  refine B1 [4,5,6,7,8] [9,10,11,12,13,14,15,16] [aa,ab,ah,aj,ac,av,aG,(38,.v (.bool (k1 == 10)))] ag fi fun mj fj=>?_
  have fk:(k1 == 10) = false:=by simp [ak]
  have fm:=fj.cast (env':=[aa,ab,ah,aj,ac,av,aG,(38,.v (.bool false))]) (by simp only [aQ,fk]; try rfl)
  refine B1 [9,10,11] [12,13,14,15,16] [aa,ab,ah,aj,ac,av,(41,.v (.bool (decide (v ≥ y4))))] ag fm fun ml dD=>?_
  refine (Bool.eq_false_or_eq_true (decide (v ≥ y4))).elim (fun aR=>?_) (fun aR=>?_)
  ·
   have kE:=of_decide_eq_true aR
   have fo:=dD.cast (env':=[aa,ab,ah,aj,ac,av,(41,.v (.bool true))]) (by simp only [aG,aR]; try rfl)
   refine B1 [12,13,14,15,16] [] [aa,ab,ah,aj,ac,av,(46,.v (.bool (!(e9 == (z2 k1 y2 y3 y4 y5 y6 y7 l8 v bh bj aW ae bk)))))] ag fo fun mn bJ=>?_
   refine B5 (A4 ?_)
   refine D4 bJ (b:=!(e9 == (z2 k1 y2 y3 y4 y5 y6 y7 l8 v bh bj aW ae bk))) kz (fun bK=>?_) (fun bK=>?_)
   ·
    have kF:!(e9 = (Fld.nul (Fld.mk k1 y2 y3 y4 y5 y6 y7 l8) v (Tree.mk bh bj aW ae bk))):=by simpa using bK
    refine B7 [ba] ag bJ fun mo fq=>?_
    refine wp_ret (D6 (C8 fq ag.cells (v:=.bool false) kz ?_))
    first
     | exact (Z9 hq ‹_› ‹_› ‹_›).elim
     | exact (Fe (hQ.2 ak ‹_›).1 ‹_›).elim
     | (exfalso; simp_all; done)
   have kG:!(e9 ≠ (Fld.nul (Fld.mk k1 y2 y3 y4 y5 y6 y7 l8) v (Tree.mk bh bj aW ae bk))):=by simpa using bK
   refine wp_skip (A4 (wp_seq (B7 bq ag bJ fun mp bL=>?_)))
   refine D4 bL (b:=Fld.nul (Fld.mk k1 y2 y3 y4 y5 y6 y7 l8) v (Tree.mk bh bj aW ae bk)) kz (fun fr=>?_) (fun fr=>?_)
   ·
    refine B7 [aH] ag bL fun mq ft=>?_
    refine wp_ret (D6 (C8 ft ag.cells (v:=.bool true) kz ?_))
    exact ⟨rfl,ag.step⟩
   refine wp_skip (A4 (wp_seq (B7 bt ag bL fun mr fv=>?_)))
   refine wp_block (wp_seq (B7 aP ag fv fun mt dE=>?_))
   refine E6 dE (b:=k1 == 8) kz (by simp [ak]) ?_
   refine D7 [0,1] kz ?_
   refine B1 [0,1] [] bu ag dE fun mu dF=>?_
   refine B5 (A4 ?_)
   refine E6 dF (b:=k1 == 9) kz (by simp [ak]) ?_
   refine B7 bw ag dF fun mw dG=>?_
   refine E6 dG (b:=k1 == 7) kz (by simp [ak]) ?_
   refine B7 aQ ag dG fun mx dH=>?_
   refine E6 dH (b:=k1 == 10) kz (by simp [ak]) ?_
   refine B7 bx ag dH fun my dI=>?_
   refine I7 dI (b:=k1 == 11) kz (by simpa using ak) ?_
   refine C0 [0,1,2,3] kz ?_
   refine B1 [0,1] [2,3] bz ag dI fun mz fw=>?_
   refine B2 (D3 fw (f:=48) (vs:=[aF]) (d:=83) kz Tryz.call48 (EA _ _ ae (eG.move ag.step A7 ag.imm).le _) ?_)
   rintro e_ mA ⟨rfl,dJ⟩
   refine ⟨_,rfl,fun mB fx=>?_⟩
   have aI:=ag.next_nil dJ
   have kH:=ag.frN dJ
   refine B1 [3] [] [aa,ab,ah,ac,(14,.v (.slice aw ((B9 ae).length) ax))] aI fx fun mC fy=>?_
   refine B5 (A4 ?_)
   refine wp_seq (B7 [aa,ab,ah,ac,(14,.v (.slice aw ((B9 ae).length) ax)),(89,.v (.bool (((aD.length:Nat):Int) != (((B9 ae).length:Nat):Int))))] aI fy fun mD bM=>?_)
   refine D4 bM (b:=((aD.length:Nat):Int) != (((B9 ae).length:Nat):Int)) kz (fun bN=>?_) (fun bN=>?_)
   ·
    have kI:((aD.length:Nat):Int) ≠ (((B9 ae).length:Nat):Int):=by simpa using bN
    refine B7 [ba] aI bM fun mF fz=>?_
    refine wp_ret (D6 (F3 (D6 (C8 fz aI.cells (v:=.bool false) kz ?_))))
    first
     | exact (Z9 hq ‹_› ‹_› ‹_›).elim
     | exact (Fe (hQ.2 ak ‹_›).1 ‹_›).elim
     | (exfalso; simp_all; done)
   have kJ:((aD.length:Nat):Int) = (((B9 ae).length:Nat):Int):=by simpa using bN
   refine wp_skip (A4 (C0 [0,1,2] kz ?_))
   refine B1 [0] [1,2] [aa,ab,ah,ac,(14,.v (.slice aw ((B9 ae).length) ax)),bA] aI bM fun mG fA=>?_
   refine B2 (H4 aI fA (d:=15) (cs:=[au,au,au,au,au,au,au,.slice none 0 0]) kz fun jy mH mI kK kL kM fB fC=>?_)
   refine B2 (D5 fB fC (oi:=3) (cs:=[aE,al,am,aC,ay,ao,af,ap]) kz fun mJ kN dK fD=>?_)
   refine B5 (A4 ?_)
   refine C0 [0,1,2,3,4,5,6,7] kz ?_
   refine B1 [0,1,2] [3,4,5,6,7] [aa,ab,ac,(14,.v (.slice aw ((B9 ae).length) ax)),ai,bB,(93,.p 3 0)] dK fD fun mK fE=>?_
   refine B2 (D5 dK fE (oi:=3) (cs:=[af,al,am,aC,ay,ao,af,ap]) kz fun mL kO dL fF=>?_)
   refine B1 [4] [5,6,7] [aa,ab,ac,(14,.v (.slice aw ((B9 ae).length) ax)),ai,(94,.p 3 3)] dL fF fun mM fG=>?_
   refine B2 (D5 dL fG (oi:=3) (cs:=[af,al,am,ar,ay,ao,af,ap]) kz fun mN kP dM fH=>?_)
   refine B1 [6] [7] [aa,ab,ac,(14,.v (.slice aw ((B9 ae).length) ax)),ai,(95,.p 3 4)] dM fH fun mO fI=>?_
   refine B2 (D5 dM fI (oi:=3) (cs:=[af,al,am,ar,ar,ao,af,ap]) kz fun mQ kQ bO fJ=>?_)
   refine B5 (A4 ?_)
   refine wp_seq (B7 [aa,ab,ac,(14,.v (.slice aw ((B9 ae).length) ax)),ai,(97,.v (.int .i64 (((B9 ae).length:Nat):Int))),bC] bO fJ fun mR fK=>?_)
   refine wp_block ?_
   have hl_:=(hQ.2 ak ‹_›).2
   refine wp_loop_ghost (fun n_ a_ w_=>∃ (k:Nat),n_ = (B9 ae).length - k ∧ k ≤ (B9 ae).length ∧ F9 bO 124 [bn,bo,bp,⟨jy,0,[af,al,am,ar,ar,ao,af,ap],true⟩] [] [aa,ab,ac,(14,.v (.slice aw ((B9 ae).length) ax)),ai,(97,.v (.int .i64 (((B9 ae).length:Nat):Int))),(98,.v (.int .i64 ((k:Nat):Int)))] a_ w_) ((B9 ae).length) ⟨0,by omega,by omega,fK.pk,bO,Fr.refl _ _ _⟩ ?_
   rintro mS mT mU ⟨k,kR,kS,fL,aJ,fM⟩
   let bd:Nat × SV:=(98,.v (.int .i64 ((k:Nat):Int)))
   refine B7 [aa,ab,ac,(14,.v (.slice aw ((B9 ae).length) ax)),ai,(97,.v (.int .i64 (((B9 ae).length:Nat):Int))),bd,(99,.v (.bool (decide (((k:Nat):Int) < (((B9 ae).length:Nat):Int)))))] aJ fL fun mV bP=>?_
   refine wp_seq (D4 bP (b:=decide (((k:Nat):Int) < (((B9 ae).length:Nat):Int))) kz (fun bQ=>?_) (fun bQ=>?_))
   ·
    have kT:=of_decide_eq_true bQ
    refine wp_skip (A4 (wp_seq (wp_block (B7 [aa,ab,ac,(14,.v (.slice aw ((B9 ae).length) ax)),ai,(16,.v (.int .i64 ((k:Nat):Int))),(97,.v (.int .i64 (((B9 ae).length:Nat):Int))),bd] aJ bP fun mW fN=>?_))))
    refine G0 14 kz aJ fun mX fO az aS=>?_
    refine C7 [0,1,2,3,4,7,8,9] [aa,ab,ac,(14,.v (.slice aw ((B9 ae).length) ax)),ai,(97,.v (.int .i64 (((B9 ae).length:Nat):Int))),bd,bD,bE,bF,(104,.v (.slice aw ((B9 ae).length) ax)),(105,.v (.int .i64 ((k:Nat):Int))),bG,(110,.v (.int .i64 ((k:Nat):Int)))] 6 (A5 (B6 (A5 (A5 (B6 (A5 (B6 (A5 B8)))))))) (fun _ h=>h.cells) aS fN fun mY fP=>?_
    obtain ⟨jz,jA,fQ,kU,bR⟩:=Slots.get (DX eG) (i:=k) (by first | omega | (have h_:aD.length = (B9 ae).length:=(hQ.2 ak ‹_›).1; omega))
    obtain ⟨jB,dN⟩:∃ x,(B9 ae)[k]? = some x:=⟨_,List.getElem?_eq_getElem (by omega)⟩
    have bS:=(DY jk) k jB dN
    obtain ⟨bT,eH,bU,eI,eJ,fR,fS,fT,fU,fV,fW,kV,rfl,bV,jC,jD,mZ,m4⟩:=bS.open_
    rw [bV] at bS
    have jE:=jC.small
    have jF:=jD.small
    rw [bV] at bR
    refine F6 fP (i:=5) (t:=23) (A:=aw) (m:=((B9 ae).length)) (q:=((k:Nat):Int)) (d:=106) kz (e:=26) (size:=5) (bytes:=88) kz fQ rfl (by first | omega | (have h_:aD.length = (B9 ae).length:=(hQ.2 ak ‹_›).1; omega)) kz kz (A5 (B6 (A5 (A5 (B6 (A5 (B6 (A5 B8)))))))) aS fun m5 fX=>?_
    let bW:Value:=.slice fR eH.length fS
    let bX:Value:=.slice fT eI.length fU
    let bY:Value:=.slice fV eJ.length fW
    let kW:Value:=.agg #[.int .i64 bT,.slice fR eH.length fS,.bool bU,.slice fT eI.length fU,.slice fV eJ.length fW]
    refine J4 fX (i:=6) (t:=26) (b:=jz) (o:=jA + k * 5) (d:=107) kz (cs:=[.int .i64 bT,bW,.bool bU,bX,bY]) (v:=.agg #[.int .i64 bT,bW,.bool bU,bX,bY]) kz (fun w' h'=>(AtF.move bR (TT.step0 az h') A7 E8).at_) kz kz (A5 (B6 (A5 (A5 (B6 (A5 (B6 (A5 B8)))))))) aS fun m6 fY=>?_
    obtain ⟨jG,jH,fZ,kX,bZ⟩:=Slots.get jh (i:=k) (by first | omega | (have h_:aD.length = (B9 ae).length:=(hQ.2 ak ‹_›).1; omega))
    obtain ⟨jI,dO⟩:∃ x,aD[k]? = some x:=⟨_,List.getElem?_eq_getElem (by omega)⟩
    have b8:=jm k jI dO
    obtain ⟨cd,eK,ce,eL,eM,f5,f7,f8,f9,ga,gb,kY,rfl,cm,jJ,jK,m7,m8⟩:=b8.open_
    rw [cm] at b8
    have jL:=jJ.small
    have jM:=jK.small
    rw [cm] at bZ
    refine F6 fY (i:=10) (t:=23) (A:=fb) (m:=aD.length) (q:=((k:Nat):Int)) (d:=111) kz (e:=26) (size:=5) (bytes:=88) kz fZ rfl (by first | omega | (have h_:aD.length = (B9 ae).length:=(hQ.2 ak ‹_›).1; omega)) kz kz (A5 (B6 (A5 (A5 (B6 (A5 (B6 (A5 B8)))))))) aS fun m9 gc=>?_
    let cq:Value:=.slice f5 eK.length f7
    let cr:Value:=.slice f8 eL.length f9
    let cu:Value:=.slice ga eM.length gb
    let kZ:Value:=.agg #[.int .i64 cd,.slice f5 eK.length f7,.bool ce,.slice f8 eL.length f9,.slice ga eM.length gb]
    refine J4 gc (i:=11) (t:=26) (b:=jG) (o:=jH + k * 5) (d:=112) kz (cs:=[.int .i64 cd,cq,.bool ce,cr,cu]) (v:=.agg #[.int .i64 cd,cq,.bool ce,cr,cu]) kz (fun w' h'=>(AtF.move bZ (TT.step0 az h') A7 E8).at_) kz kz (A5 (B6 (A5 (A5 (B6 (A5 (B6 (A5 B8)))))))) aS fun nf gd=>?_
    refine C2 (i:=12) kz (D3 gd (f:=26) (vs:=[.agg #[af,al,am,ar,ar,ao,af,ap],.int .i64 v,.bool flex,.agg #[.int .i64 bT,bW,.bool bU,bX,bY],.agg #[.int .i64 cd,cq,.bool ce,cr,cu]]) (d:=113) kz Tryz.call26 ( Fs hT _ _ _ (Tree.mk bT eH bU eI eJ) _ (Tree.mk cd eK ce eL eM) _ _ (FldR.mk (l:=l8) eF (jg.move az.step A7 az.imm) (fun i_ x_ h_=>((jj i_ x_ h_).move az.step A7 az.imm))) hpl hof (bS.move az.step A7 az.imm) (b8.move az.step A7 az.imm) (hl_ _ _ _ dN dO)) ?_)
    rintro e_ ng ⟨rfl,dP⟩
    refine ⟨_,rfl,fun nh ge=>?_⟩
    have cw:=az.next_nil dP
    have dQ:=az.frN dP
    have dR:=TT.ofW dQ cw
    refine ⟨fun _=>dR,?_⟩
    refine C7 [13] [aa,ab,ac,(14,.v (.slice aw ((B9 ae).length) ax)),ai,(97,.v (.int .i64 (((B9 ae).length:Nat):Int))),bd,bH] 0 (A5 (B6 (A5 (A5 (B6 (A5 (B6 (A5 B8)))))))) (fun _ h=>h.cells) dR ge fun ni dS=>?_
    refine E5 kz ?_ _
    refine A4 (E6 dS (b:=false) kz rfl ?_)
    refine wp_skip (F2 (A4 (D7 [0,1] kz ?_)))
    refine B1 [0,1] [] [aa,ab,ac,(14,.v (.slice aw ((B9 ae).length) ax)),ai,(97,.v (.int .i64 (((B9 ae).length:Nat):Int))),(98,.v (.int .i64 (IntKind.i64.wrap (((k:Nat):Int) + 1))))] cw dS fun nj dT=>?_
    refine B5 (A4 ?_)
    have gg:IntKind.i64.wrap (((k:Nat):Int) + 1) = ((k + 1:Nat):Int):=G8 (by omega)
    rw [gg] at dT
    exact ⟨(B9 ae).length - (k + 1),by omega,k + 1,rfl,by omega,dT.pk,cw,((fM.trans fO).trans dQ)⟩
   have k5:=of_decide_eq_false bQ
   refine wp_exit (E7 (E7 (G9 (A4 (B7 [aH] aJ bP fun nk gh=>?_)))))
   refine wp_ret (F3 (D6 (C8 gh aJ.cells (v:=.bool true) kz ?_)))
   exact ⟨rfl,aJ.step⟩
  have k6:=of_decide_eq_false aR
  have gi:=dD.cast (env':=[aa,ab,ah,aj,ac,av,(41,.v (.bool false))]) (by simp only [aG,aR]; try rfl)
  refine B1 [12,13,14,15,16] [] dC ag gi fun nl dU=>?_
  refine B5 (A4 ?_)
  refine E6 dU (b:=false) kz rfl ?_
  refine wp_skip (A4 (wp_seq (B7 bq ag dU fun nm cz=>?_)))
  refine D4 cz (b:=Fld.nul (Fld.mk k1 y2 y3 y4 y5 y6 y7 l8) v (Tree.mk bh bj aW ae bk)) kz (fun gj=>?_) (fun gj=>?_)
  ·
   refine B7 [aH] ag cz fun np gk=>?_
   refine wp_ret (D6 (C8 gk ag.cells (v:=.bool true) kz ?_))
   exact ⟨rfl,ag.step⟩
  refine wp_skip (A4 (wp_seq (B7 bt ag cz fun nr gl=>?_)))
  refine wp_block (wp_seq (B7 aP ag gl fun ns dV=>?_))
  refine E6 dV (b:=k1 == 8) kz (by simp [ak]) ?_
  refine D7 [0,1] kz ?_
  refine B1 [0,1] [] bu ag dV fun nt dW=>?_
  refine B5 (A4 ?_)
  refine E6 dW (b:=k1 == 9) kz (by simp [ak]) ?_
  refine B7 bw ag dW fun nu dX=>?_
  refine E6 dX (b:=k1 == 7) kz (by simp [ak]) ?_
  refine B7 aQ ag dX fun nv dY=>?_
  refine E6 dY (b:=k1 == 10) kz (by simp [ak]) ?_
  refine B7 bx ag dY fun nw dZ=>?_
  refine I7 dZ (b:=k1 == 11) kz (by simpa using ak) ?_
  refine C0 [0,1,2,3] kz ?_
  refine B1 [0,1] [2,3] bz ag dZ fun nx gm=>?_
  refine B2 (D3 gm (f:=48) (vs:=[aF]) (d:=83) kz Tryz.call48 (EA _ _ ae (eG.move ag.step A7 ag.imm).le _) ?_)
  rintro e_ ny ⟨rfl,d4⟩
  refine ⟨_,rfl,fun nz gn=>?_⟩
  have aK:=ag.next_nil d4
  have k7:=ag.frN d4
  refine B1 [3] [] [aa,ab,ah,ac,(14,.v (.slice aw ((B9 ae).length) ax))] aK gn fun nA gp=>?_
  refine B5 (A4 ?_)
  refine wp_seq (B7 [aa,ab,ah,ac,(14,.v (.slice aw ((B9 ae).length) ax)),(89,.v (.bool (((aD.length:Nat):Int) != (((B9 ae).length:Nat):Int))))] aK gp fun nB cA=>?_)
  refine D4 cA (b:=((aD.length:Nat):Int) != (((B9 ae).length:Nat):Int)) kz (fun cB=>?_) (fun cB=>?_)
  ·
   have k8:((aD.length:Nat):Int) ≠ (((B9 ae).length:Nat):Int):=by simpa using cB
   refine B7 [ba] aK cA fun nC gq=>?_
   refine wp_ret (D6 (F3 (D6 (C8 gq aK.cells (v:=.bool false) kz ?_))))
   first
    | exact (Z9 hq ‹_› ‹_› ‹_›).elim
    | exact (Fe (hQ.2 ak ‹_›).1 ‹_›).elim
    | (exfalso; simp_all; done)
  have k9:((aD.length:Nat):Int) = (((B9 ae).length:Nat):Int):=by simpa using cB
  refine wp_skip (A4 (C0 [0,1,2] kz ?_))
  refine B1 [0] [1,2] [aa,ab,ah,ac,(14,.v (.slice aw ((B9 ae).length) ax)),bA] aK cA fun nD gt=>?_
  refine B2 (H4 aK gt (d:=15) (cs:=[au,au,au,au,au,au,au,.slice none 0 0]) kz fun jN nE nF la lb lc gv gw=>?_)
  refine B2 (D5 gv gw (oi:=3) (cs:=[aE,al,am,aC,ay,ao,af,ap]) kz fun nG ld d5 gx=>?_)
  refine B5 (A4 ?_)
  refine C0 [0,1,2,3,4,5,6,7] kz ?_
  refine B1 [0,1,2] [3,4,5,6,7] [aa,ab,ac,(14,.v (.slice aw ((B9 ae).length) ax)),ai,bB,(93,.p 3 0)] d5 gx fun nH gy=>?_
  refine B2 (D5 d5 gy (oi:=3) (cs:=[af,al,am,aC,ay,ao,af,ap]) kz fun nI lf d6 gz=>?_)
  refine B1 [4] [5,6,7] [aa,ab,ac,(14,.v (.slice aw ((B9 ae).length) ax)),ai,(94,.p 3 3)] d6 gz fun nJ gA=>?_
  refine B2 (D5 d6 gA (oi:=3) (cs:=[af,al,am,ar,ay,ao,af,ap]) kz fun nK lg d7 gB=>?_)
  refine B1 [6] [7] [aa,ab,ac,(14,.v (.slice aw ((B9 ae).length) ax)),ai,(95,.p 3 4)] d7 gB fun nL gC=>?_
  refine B2 (D5 d7 gC (oi:=3) (cs:=[af,al,am,ar,ar,ao,af,ap]) kz fun nM lh cC gD=>?_)
  refine B5 (A4 ?_)
  refine wp_seq (B7 [aa,ab,ac,(14,.v (.slice aw ((B9 ae).length) ax)),ai,(97,.v (.int .i64 (((B9 ae).length:Nat):Int))),bC] cC gD fun nN gE=>?_)
  refine wp_block ?_
  have hl_:=(hQ.2 ak ‹_›).2
  refine wp_loop_ghost (fun n_ a_ w_=>∃ (k:Nat),n_ = (B9 ae).length - k ∧ k ≤ (B9 ae).length ∧ F9 cC 124 [bn,bo,bp,⟨jN,0,[af,al,am,ar,ar,ao,af,ap],true⟩] [] [aa,ab,ac,(14,.v (.slice aw ((B9 ae).length) ax)),ai,(97,.v (.int .i64 (((B9 ae).length:Nat):Int))),(98,.v (.int .i64 ((k:Nat):Int)))] a_ w_) ((B9 ae).length) ⟨0,by omega,by omega,gE.pk,cC,Fr.refl _ _ _⟩ ?_
  rintro nO nP nQ ⟨k,li,lj,gF,aL,gG⟩
  let bf:Nat × SV:=(98,.v (.int .i64 ((k:Nat):Int)))
  refine B7 [aa,ab,ac,(14,.v (.slice aw ((B9 ae).length) ax)),ai,(97,.v (.int .i64 (((B9 ae).length:Nat):Int))),bf,(99,.v (.bool (decide (((k:Nat):Int) < (((B9 ae).length:Nat):Int)))))] aL gF fun nR cD=>?_
  refine wp_seq (D4 cD (b:=decide (((k:Nat):Int) < (((B9 ae).length:Nat):Int))) kz (fun cE=>?_) (fun cE=>?_))
  ·
   have lm:=of_decide_eq_true cE
   refine wp_skip (A4 (wp_seq (wp_block (B7 [aa,ab,ac,(14,.v (.slice aw ((B9 ae).length) ax)),ai,(16,.v (.int .i64 ((k:Nat):Int))),(97,.v (.int .i64 (((B9 ae).length:Nat):Int))),bf] aL cD fun nS gH=>?_))))
   refine G0 14 kz aL fun nT gI aA aT=>?_
   refine C7 [0,1,2,3,4,7,8,9] [aa,ab,ac,(14,.v (.slice aw ((B9 ae).length) ax)),ai,(97,.v (.int .i64 (((B9 ae).length:Nat):Int))),bf,bD,bE,bF,(104,.v (.slice aw ((B9 ae).length) ax)),(105,.v (.int .i64 ((k:Nat):Int))),bG,(110,.v (.int .i64 ((k:Nat):Int)))] 6 (A5 (B6 (A5 (A5 (B6 (A5 (B6 (A5 B8)))))))) (fun _ h=>h.cells) aT gH fun nU gJ=>?_
   obtain ⟨jO,jP,gK,ln,cG⟩:=Slots.get (DX eG) (i:=k) (by first | omega | (have h_:aD.length = (B9 ae).length:=(hQ.2 ak ‹_›).1; omega))
   obtain ⟨jQ,d8⟩:∃ x,(B9 ae)[k]? = some x:=⟨_,List.getElem?_eq_getElem (by omega)⟩
   have cH:=(DY jk) k jQ d8
   obtain ⟨cI,eN,cJ,eO,eP,gL,gM,gN,gO,gP,gQ,lp,rfl,cK,jR,jS,nV,nW⟩:=cH.open_
   rw [cK] at cH
   have jT:=jR.small
   have jU:=jS.small
   rw [cK] at cG
   refine F6 gJ (i:=5) (t:=23) (A:=aw) (m:=((B9 ae).length)) (q:=((k:Nat):Int)) (d:=106) kz (e:=26) (size:=5) (bytes:=88) kz gK rfl (by first | omega | (have h_:aD.length = (B9 ae).length:=(hQ.2 ak ‹_›).1; omega)) kz kz (A5 (B6 (A5 (A5 (B6 (A5 (B6 (A5 B8)))))))) aT fun nX gR=>?_
   let cL:Value:=.slice gL eN.length gM
   let cM:Value:=.slice gN eO.length gO
   let cN:Value:=.slice gP eP.length gQ
   let lq:Value:=.agg #[.int .i64 cI,.slice gL eN.length gM,.bool cJ,.slice gN eO.length gO,.slice gP eP.length gQ]
   refine J4 gR (i:=6) (t:=26) (b:=jO) (o:=jP + k * 5) (d:=107) kz (cs:=[.int .i64 cI,cL,.bool cJ,cM,cN]) (v:=.agg #[.int .i64 cI,cL,.bool cJ,cM,cN]) kz (fun w' h'=>(AtF.move cG (TT.step0 aA h') A7 E8).at_) kz kz (A5 (B6 (A5 (A5 (B6 (A5 (B6 (A5 B8)))))))) aT fun nY gS=>?_
   obtain ⟨jV,jW,gT,lr,cO⟩:=Slots.get jh (i:=k) (by first | omega | (have h_:aD.length = (B9 ae).length:=(hQ.2 ak ‹_›).1; omega))
   obtain ⟨jX,d9⟩:∃ x,aD[k]? = some x:=⟨_,List.getElem?_eq_getElem (by omega)⟩
   have cP:=jm k jX d9
   obtain ⟨cQ,eQ,cR,eR,eS,gU,gV,gW,gX,gY,gZ,ls,rfl,cS,jY,jZ,nZ,n0⟩:=cP.open_
   rw [cS] at cP
   have j0:=jY.small
   have j1:=jZ.small
   rw [cS] at cO
   refine F6 gS (i:=10) (t:=23) (A:=fb) (m:=aD.length) (q:=((k:Nat):Int)) (d:=111) kz (e:=26) (size:=5) (bytes:=88) kz gT rfl (by first | omega | (have h_:aD.length = (B9 ae).length:=(hQ.2 ak ‹_›).1; omega)) kz kz (A5 (B6 (A5 (A5 (B6 (A5 (B6 (A5 B8)))))))) aT fun n4 hC=>?_
   let cT:Value:=.slice gU eQ.length gV
   let cU:Value:=.slice gW eR.length gX
   let cV:Value:=.slice gY eS.length gZ
   let lu:Value:=.agg #[.int .i64 cQ,.slice gU eQ.length gV,.bool cR,.slice gW eR.length gX,.slice gY eS.length gZ]
   refine J4 hC (i:=11) (t:=26) (b:=jV) (o:=jW + k * 5) (d:=112) kz (cs:=[.int .i64 cQ,cT,.bool cR,cU,cV]) (v:=.agg #[.int .i64 cQ,cT,.bool cR,cU,cV]) kz (fun w' h'=>(AtF.move cO (TT.step0 aA h') A7 E8).at_) kz kz (A5 (B6 (A5 (A5 (B6 (A5 (B6 (A5 B8)))))))) aT fun n5 hJ=>?_
   refine C2 (i:=12) kz (D3 hJ (f:=26) (vs:=[.agg #[af,al,am,ar,ar,ao,af,ap],.int .i64 v,.bool flex,.agg #[.int .i64 cI,cL,.bool cJ,cM,cN],.agg #[.int .i64 cQ,cT,.bool cR,cU,cV]]) (d:=113) kz Tryz.call26 ( Fs hT _ _ _ (Tree.mk cI eN cJ eO eP) _ (Tree.mk cQ eQ cR eR eS) _ _ (FldR.mk (l:=l8) eF (jg.move aA.step A7 aA.imm) (fun i_ x_ h_=>((jj i_ x_ h_).move aA.step A7 aA.imm))) hpl hof (cH.move aA.step A7 aA.imm) (cP.move aA.step A7 aA.imm) (hl_ _ _ _ d8 d9)) ?_)
   rintro e_ n8 ⟨rfl,ea⟩
   refine ⟨_,rfl,fun oa hK=>?_⟩
   have cW:=aA.next_nil ea
   have eb:=aA.frN ea
   have ec:=TT.ofW eb cW
   refine ⟨fun _=>ec,?_⟩
   refine C7 [13] [aa,ab,ac,(14,.v (.slice aw ((B9 ae).length) ax)),ai,(97,.v (.int .i64 (((B9 ae).length:Nat):Int))),bf,bH] 0 (A5 (B6 (A5 (A5 (B6 (A5 (B6 (A5 B8)))))))) (fun _ h=>h.cells) ec hK fun od ee=>?_
   refine E5 kz ?_ _
   refine A4 (E6 ee (b:=false) kz rfl ?_)
   refine wp_skip (F2 (A4 (D7 [0,1] kz ?_)))
   refine B1 [0,1] [] [aa,ab,ac,(14,.v (.slice aw ((B9 ae).length) ax)),ai,(97,.v (.int .i64 (((B9 ae).length:Nat):Int))),(98,.v (.int .i64 (IntKind.i64.wrap (((k:Nat):Int) + 1))))] cW ee fun oe ef=>?_
   refine B5 (A4 ?_)
   have hZ:IntKind.i64.wrap (((k:Nat):Int) + 1) = ((k + 1:Nat):Int):=G8 (by omega)
   rw [hZ] at ef
   exact ⟨(B9 ae).length - (k + 1),by omega,k + 1,rfl,by omega,ef.pk,cW,((gG.trans gI).trans eb)⟩
  have lv:=of_decide_eq_false cE
  refine wp_exit (E7 (E7 (G9 (A4 (B7 [aH] aL cD fun og ia=>?_)))))
  refine wp_ret (F3 (D6 (C8 ia aL.cells (v:=.bool true) kz ?_)))
  exact ⟨rfl,aL.step⟩
 have lw:=of_decide_eq_false bI
 have ib:=ff.cast (env':=[aa,ab,ah,aj,ac,av,(24,.v (.bool false))]) (by rw [bI])
 let aU:Nat × SV:=(12,.v (.bool false))
 refine B1 [4,5,6,7,8,9] [] [aa,ab,ah,aj,ac,av,aU] ag ib fun oh ic=>?_
 refine B5 (A4 ?_)
 refine wp_seq (C0 [0,1,2,3,4,5,6,7,8,9,10,11,12,13,14,15,16] kz ?_)
 refine B1 [0,1,2,3] [4,5,6,7,8,9,10,11,12,13,14,15,16] [aa,ab,ah,aj,ac,av,aU,(33,.v (.bool (k1 == 8)))] ag ic fun ol ig=>?_
 have ii:(k1 == 8) = false:=by simp [ak]
 have ij:=ig.cast (env':=[aa,ab,ah,aj,ac,av,aU,(33,.v (.bool false))]) (by simp only [aP,ii]; try rfl)
 refine B1 [4,5,6,7,8] [9,10,11,12,13,14,15,16] [aa,ab,ah,aj,ac,av,aU,(38,.v (.bool (k1 == 10)))] ag ij fun om ik=>?_
 have il:(k1 == 10) = false:=by simp [ak]
 have im:=ik.cast (env':=[aa,ab,ah,aj,ac,av,aU,(38,.v (.bool false))]) (by simp only [aQ,il]; try rfl)
 refine B1 [9,10,11,12,13,14,15,16] [] dC ag im fun oq eg=>?_
 refine B5 (A4 ?_)
 refine E6 eg (b:=false) kz rfl ?_
 refine wp_skip (A4 (wp_seq (B7 bq ag eg fun ot cX=>?_)))
 refine D4 cX (b:=Fld.nul (Fld.mk k1 y2 y3 y4 y5 y6 y7 l8) v (Tree.mk bh bj aW ae bk)) kz (fun io=>?_) (fun io=>?_)
 ·
  refine B7 [aH] ag cX fun ou ip=>?_
  refine wp_ret (D6 (C8 ip ag.cells (v:=.bool true) kz ?_))
  exact ⟨rfl,ag.step⟩
 refine wp_skip (A4 (wp_seq (B7 bt ag cX fun ov iq=>?_)))
 refine wp_block (wp_seq (B7 aP ag iq fun ow eh=>?_))
 refine E6 eh (b:=k1 == 8) kz (by simp [ak]) ?_
 refine D7 [0,1] kz ?_
 refine B1 [0,1] [] bu ag eh fun ox ei=>?_
 refine B5 (A4 ?_)
 refine E6 ei (b:=k1 == 9) kz (by simp [ak]) ?_
 refine B7 bw ag ei fun oy ej=>?_
 refine E6 ej (b:=k1 == 7) kz (by simp [ak]) ?_
 refine B7 aQ ag ej fun oz ek=>?_
 refine E6 ek (b:=k1 == 10) kz (by simp [ak]) ?_
 refine B7 bx ag ek fun oA em=>?_
 refine I7 em (b:=k1 == 11) kz (by simpa using ak) ?_
 refine C0 [0,1,2,3] kz ?_
 refine B1 [0,1] [2,3] bz ag em fun oB ir=>?_
 refine B2 (D3 ir (f:=48) (vs:=[aF]) (d:=83) kz Tryz.call48 (EA _ _ ae (eG.move ag.step A7 ag.imm).le _) ?_)
 rintro e_ oC ⟨rfl,eo⟩
 refine ⟨_,rfl,fun oD iu=>?_⟩
 have aM:=ag.next_nil eo
 have lx:=ag.frN eo
 refine B1 [3] [] [aa,ab,ah,ac,(14,.v (.slice aw ((B9 ae).length) ax))] aM iu fun oE iv=>?_
 refine B5 (A4 ?_)
 refine wp_seq (B7 [aa,ab,ah,ac,(14,.v (.slice aw ((B9 ae).length) ax)),(89,.v (.bool (((aD.length:Nat):Int) != (((B9 ae).length:Nat):Int))))] aM iv fun oF cY=>?_)
 refine D4 cY (b:=((aD.length:Nat):Int) != (((B9 ae).length:Nat):Int)) kz (fun cZ=>?_) (fun cZ=>?_)
 ·
  have ly:((aD.length:Nat):Int) ≠ (((B9 ae).length:Nat):Int):=by simpa using cZ
  refine B7 [ba] aM cY fun oG iw=>?_
  refine wp_ret (D6 (F3 (D6 (C8 iw aM.cells (v:=.bool false) kz ?_))))
  first
   | exact (Z9 hq ‹_› ‹_› ‹_›).elim
   | exact (Fe (hQ.2 ak ‹_›).1 ‹_›).elim
   | (exfalso; simp_all; done)
 have lz:((aD.length:Nat):Int) = (((B9 ae).length:Nat):Int):=by simpa using cZ
 refine wp_skip (A4 (C0 [0,1,2] kz ?_))
 refine B1 [0] [1,2] [aa,ab,ah,ac,(14,.v (.slice aw ((B9 ae).length) ax)),bA] aM cY fun oH ix=>?_
 refine B2 (H4 aM ix (d:=15) (cs:=[au,au,au,au,au,au,au,.slice none 0 0]) kz fun j2 oI oJ lA lB lC iy iz=>?_)
 refine B2 (D5 iy iz (oi:=3) (cs:=[aE,al,am,aC,ay,ao,af,ap]) kz fun oK lD ep iA=>?_)
 refine B5 (A4 ?_)
 refine C0 [0,1,2,3,4,5,6,7] kz ?_
 refine B1 [0,1,2] [3,4,5,6,7] [aa,ab,ac,(14,.v (.slice aw ((B9 ae).length) ax)),ai,bB,(93,.p 3 0)] ep iA fun oL iB=>?_
 refine B2 (D5 ep iB (oi:=3) (cs:=[af,al,am,aC,ay,ao,af,ap]) kz fun oM lE eu iC=>?_)
 refine B1 [4] [5,6,7] [aa,ab,ac,(14,.v (.slice aw ((B9 ae).length) ax)),ai,(94,.p 3 3)] eu iC fun oN iD=>?_
 refine B2 (D5 eu iD (oi:=3) (cs:=[af,al,am,ar,ay,ao,af,ap]) kz fun oO lF ev iE=>?_)
 refine B1 [6] [7] [aa,ab,ac,(14,.v (.slice aw ((B9 ae).length) ax)),ai,(95,.p 3 4)] ev iE fun oP iF=>?_
 refine B2 (D5 ev iF (oi:=3) (cs:=[af,al,am,ar,ar,ao,af,ap]) kz fun oQ lG da iG=>?_)
 refine B5 (A4 ?_)
 refine wp_seq (B7 [aa,ab,ac,(14,.v (.slice aw ((B9 ae).length) ax)),ai,(97,.v (.int .i64 (((B9 ae).length:Nat):Int))),bC] da iG fun oR iH=>?_)
 refine wp_block ?_
 have hl_:=(hQ.2 ak ‹_›).2
 refine wp_loop_ghost (fun n_ a_ w_=>∃ (k:Nat),n_ = (B9 ae).length - k ∧ k ≤ (B9 ae).length ∧ F9 da 124 [bn,bo,bp,⟨j2,0,[af,al,am,ar,ar,ao,af,ap],true⟩] [] [aa,ab,ac,(14,.v (.slice aw ((B9 ae).length) ax)),ai,(97,.v (.int .i64 (((B9 ae).length:Nat):Int))),(98,.v (.int .i64 ((k:Nat):Int)))] a_ w_) ((B9 ae).length) ⟨0,by omega,by omega,iH.pk,da,Fr.refl _ _ _⟩ ?_
 rintro oS oT oU ⟨k,lH,lI,iI,aN,iJ⟩
 let bg:Nat × SV:=(98,.v (.int .i64 ((k:Nat):Int)))
 refine B7 [aa,ab,ac,(14,.v (.slice aw ((B9 ae).length) ax)),ai,(97,.v (.int .i64 (((B9 ae).length:Nat):Int))),bg,(99,.v (.bool (decide (((k:Nat):Int) < (((B9 ae).length:Nat):Int)))))] aN iI fun oV db=>?_
 refine wp_seq (D4 db (b:=decide (((k:Nat):Int) < (((B9 ae).length:Nat):Int))) kz (fun dc=>?_) (fun dc=>?_))
 ·
  have lJ:=of_decide_eq_true dc
  refine wp_skip (A4 (wp_seq (wp_block (B7 [aa,ab,ac,(14,.v (.slice aw ((B9 ae).length) ax)),ai,(16,.v (.int .i64 ((k:Nat):Int))),(97,.v (.int .i64 (((B9 ae).length:Nat):Int))),bg] aN db fun oW iK=>?_))))
  refine G0 14 kz aN fun oX iL aB aV=>?_
  refine C7 [0,1,2,3,4,7,8,9] [aa,ab,ac,(14,.v (.slice aw ((B9 ae).length) ax)),ai,(97,.v (.int .i64 (((B9 ae).length:Nat):Int))),bg,bD,bE,bF,(104,.v (.slice aw ((B9 ae).length) ax)),(105,.v (.int .i64 ((k:Nat):Int))),bG,(110,.v (.int .i64 ((k:Nat):Int)))] 6 (A5 (B6 (A5 (A5 (B6 (A5 (B6 (A5 B8)))))))) (fun _ h=>h.cells) aV iK fun oY iM=>?_
  obtain ⟨j3,j4,iN,lK,de⟩:=Slots.get (DX eG) (i:=k) (by first | omega | (have h_:aD.length = (B9 ae).length:=(hQ.2 ak ‹_›).1; omega))
  obtain ⟨j5,ew⟩:∃ x,(B9 ae)[k]? = some x:=⟨_,List.getElem?_eq_getElem (by omega)⟩
  have df:=(DY jk) k j5 ew
  obtain ⟨dg,eU,dh,eV,eW,iO,iP,iQ,iR,iS,iT,lL,rfl,di,j6,j7,oZ,o5⟩:=df.open_
  rw [di] at df
  have j8:=j6.small
  have j9:=j7.small
  rw [di] at de
  refine F6 iM (i:=5) (t:=23) (A:=aw) (m:=((B9 ae).length)) (q:=((k:Nat):Int)) (d:=106) kz (e:=26) (size:=5) (bytes:=88) kz iN rfl (by first | omega | (have h_:aD.length = (B9 ae).length:=(hQ.2 ak ‹_›).1; omega)) kz kz (A5 (B6 (A5 (A5 (B6 (A5 (B6 (A5 B8)))))))) aV fun o6 iU=>?_
  let dj:Value:=.slice iO eU.length iP
  let dl:Value:=.slice iQ eV.length iR
  let dp:Value:=.slice iS eW.length iT
  let lM:Value:=.agg #[.int .i64 dg,.slice iO eU.length iP,.bool dh,.slice iQ eV.length iR,.slice iS eW.length iT]
  refine J4 iU (i:=6) (t:=26) (b:=j3) (o:=j4 + k * 5) (d:=107) kz (cs:=[.int .i64 dg,dj,.bool dh,dl,dp]) (v:=.agg #[.int .i64 dg,dj,.bool dh,dl,dp]) kz (fun w' h'=>(AtF.move de (TT.step0 aB h') A7 E8).at_) kz kz (A5 (B6 (A5 (A5 (B6 (A5 (B6 (A5 B8)))))))) aV fun o7 iV=>?_
  obtain ⟨ka,kd,iW,lN,dq⟩:=Slots.get jh (i:=k) (by first | omega | (have h_:aD.length = (B9 ae).length:=(hQ.2 ak ‹_›).1; omega))
  obtain ⟨ke,ey⟩:∃ x,aD[k]? = some x:=⟨_,List.getElem?_eq_getElem (by omega)⟩
  have dr:=jm k ke ey
  obtain ⟨dt,eX,du,eY,eZ,iX,iY,iZ,i6,i7,ja,lO,rfl,dv,kf,kg,o9,pa⟩:=dr.open_
  rw [dv] at dr
  have kh:=kf.small
  have ki:=kg.small
  rw [dv] at dq
  refine F6 iV (i:=10) (t:=23) (A:=fb) (m:=aD.length) (q:=((k:Nat):Int)) (d:=111) kz (e:=26) (size:=5) (bytes:=88) kz iW rfl (by first | omega | (have h_:aD.length = (B9 ae).length:=(hQ.2 ak ‹_›).1; omega)) kz kz (A5 (B6 (A5 (A5 (B6 (A5 (B6 (A5 B8)))))))) aV fun pb jb=>?_
  let dw:Value:=.slice iX eX.length iY
  let dx:Value:=.slice iZ eY.length i6
  let dy:Value:=.slice i7 eZ.length ja
  let lP:Value:=.agg #[.int .i64 dt,.slice iX eX.length iY,.bool du,.slice iZ eY.length i6,.slice i7 eZ.length ja]
  refine J4 jb (i:=11) (t:=26) (b:=ka) (o:=kd + k * 5) (d:=112) kz (cs:=[.int .i64 dt,dw,.bool du,dx,dy]) (v:=.agg #[.int .i64 dt,dw,.bool du,dx,dy]) kz (fun w' h'=>(AtF.move dq (TT.step0 aB h') A7 E8).at_) kz kz (A5 (B6 (A5 (A5 (B6 (A5 (B6 (A5 B8)))))))) aV fun pc jc=>?_
  refine C2 (i:=12) kz (D3 jc (f:=26) (vs:=[.agg #[af,al,am,ar,ar,ao,af,ap],.int .i64 v,.bool flex,.agg #[.int .i64 dg,dj,.bool dh,dl,dp],.agg #[.int .i64 dt,dw,.bool du,dx,dy]]) (d:=113) kz Tryz.call26 ( Fs hT _ _ _ (Tree.mk dg eU dh eV eW) _ (Tree.mk dt eX du eY eZ) _ _ (FldR.mk (l:=l8) eF (jg.move aB.step A7 aB.imm) (fun i_ x_ h_=>((jj i_ x_ h_).move aB.step A7 aB.imm))) hpl hof (df.move aB.step A7 aB.imm) (dr.move aB.step A7 aB.imm) (hl_ _ _ _ ew ey)) ?_)
  rintro e_ pd ⟨rfl,ez⟩
  refine ⟨_,rfl,fun pe jd=>?_⟩
  have dA:=aB.next_nil ez
  have eB:=aB.frN ez
  have eC:=TT.ofW eB dA
  refine ⟨fun _=>eC,?_⟩
  refine C7 [13] [aa,ab,ac,(14,.v (.slice aw ((B9 ae).length) ax)),ai,(97,.v (.int .i64 (((B9 ae).length:Nat):Int))),bg,bH] 0 (A5 (B6 (A5 (A5 (B6 (A5 (B6 (A5 B8)))))))) (fun _ h=>h.cells) eC jd fun pf eD=>?_
  refine E5 kz ?_ _
  refine A4 (E6 eD (b:=false) kz rfl ?_)
  refine wp_skip (F2 (A4 (D7 [0,1] kz ?_)))
  refine B1 [0,1] [] [aa,ab,ac,(14,.v (.slice aw ((B9 ae).length) ax)),ai,(97,.v (.int .i64 (((B9 ae).length:Nat):Int))),(98,.v (.int .i64 (IntKind.i64.wrap (((k:Nat):Int) + 1))))] dA eD fun pg eE=>?_
  refine B5 (A4 ?_)
  have je:IntKind.i64.wrap (((k:Nat):Int) + 1) = ((k + 1:Nat):Int):=G8 (by omega)
  rw [je] at eE
  exact ⟨(B9 ae).length - (k + 1),by omega,k + 1,rfl,by omega,eE.pk,dA,((iJ.trans iL).trans eB)⟩
 have lQ:=of_decide_eq_false dc
 refine wp_exit (E7 (E7 (G9 (A4 (B7 [aH] aN db fun ph jf=>?_)))))
 refine wp_ret (F3 (D6 (C8 jf aN.cells (v:=.bool true) kz ?_)))
 exact ⟨rfl,aN.step⟩
theorem Pf {v:Int} {flex:Bool} {T:List Fld → Tree → Tree → Prop} (hT:W1 v flex T) (cf:List Value) (f:Fld) (ct:List Value) (t:Tree) (cg:List Value) (g:Tree) (w:World) (F:Nat → Nat → Prop) (hf:FldR w F cf f) (hpl:f.plain) (ht:TreeR w F ct t) (hg:TreeR w F cg g) (hQ:Bn T v f t g) :
  Calls Tryz.prog 26 #[.agg cf.toArray,.int .i64 v,.bool flex,.agg ct.toArray,.agg cg.toArray] w (L5 w (.bool true)):=by
 by_cases h:f.kind = 11
 ·exact Pe hT cf f ct t cg g w F hf hpl h ht hg hQ
 exact Fs hT cf f ct t cg g w F hf (LJ hpl) h ht hg hQ.1
set_option maxHeartbeats 4000000 in
theorem Ke {v:Int} {flex:Bool} {T:List Fld → Tree → Tree → Prop} {U:List Fld → Tree → Prop} (hT:W1 v flex T) (hU:Ca U) (A:Option Addr) (c:Nat) (l:List Fld) (ct:List Value) (t:Tree) (cg:List Value) (g:Tree) (w:World) (F:Nat → Nat → Prop) (hl:FldsR w F A c l) (ht:TreeR w F ct t) (hg:TreeR w F cg g) (hpl:plains l) (hP:GW T U l v flex t g) :
  Calls Tryz.prog 10 #[.slice A l.length c,.int .i64 v,.bool flex,.agg ct.toArray,.agg cg.toArray] w (L5 w (.bool true)):=by
 obtain ⟨xfs,h1,h2⟩:=hl.ex
 have hsm:=h1.small
 obtain ⟨n1,s2,b3,l4,u5,A6,c7,A8,c9,jM,jN,kY,rfl,rfl,kZ,k5,nY,k6⟩:=ht.open_
 have jO:=kZ.small
 have jP:=k5.small
 obtain ⟨jQ,jR,jS,cw,bQ,jT,jU,fj,iU,fk,iV,k7,rfl,rfl,k8,iW,jV,k9⟩:=hg.open_
 have jW:=k8.small
 have jX:=iW.small
 have hlen:cw.length = l.length:=hP.1
 have hgu:bQ = if flex = true then N5 (C4 l u5) else []:=hP.2.2
 obtain ⟨la,jY,lb⟩:=k9.ex
 have jZ:=jY.small
 refine enter (n:=120) Tryz.func10 rfl Tryz.ntmps10 kz fun a hE=>?_
 have hW:=WOk.start w C1
 refine C0 [0,1,2] kz ?_
 let bW:Value:=.slice A6 s2.length c7
 let bX:Value:=.slice A8 l4.length c9
 let bu:Value:=.slice jM u5.length jN
 refine B2 (K9 hW hE (d:=8) (cs:=[.int .i64 n1,bW,.bool b3,bX,bu]) kz fun lc nZ n0 ld lf lg iX iY=>?_)
 refine B2 (K9 iX iY (d:=9) (cs:=[.int .i64 jQ,.slice jT jR.length jU,.bool jS,.slice fj cw.length iU,.slice fk bQ.length iV]) kz fun lh n4 n5 li lj lm bR iZ=>?_)
 let ab:Nat × SV:=(0,.v (.slice A l.length c))
 let ac:Nat × SV:=(1,.v (.int .i64 v))
 let ae:Nat × SV:=(8,.p 0 0)
 let aa:Nat × SV:=(9,.p 1 0)
 refine B1 [2] [] [ab,ac,(2,.v (.bool flex)),ae,aa] bR iZ fun n8 i6=>?_
 refine B5 (A4 ?_)
 refine wp_seq (B7 [ab,ac,(2,.v (.bool flex)),ae,aa,(22,.v (.bool (((cw.length:Nat):Int) != ((l.length:Nat):Int))))] bR i6 fun oa eD=>?_)
 let bw:Nat × SV:=(10,.v (.bool false))
 refine D4 eD (b:=((cw.length:Nat):Int) != ((l.length:Nat):Int)) kz (fun eE=>?_) (fun eE=>?_)
 ·
  have ln:((cw.length:Nat):Int) ≠ ((l.length:Nat):Int):=by simpa using eE
  refine B7 [bw] bR eD fun od i7=>?_
  refine wp_ret (D6 (C8 i7 bR.cells (v:=.bool false) kz ?_))
  first
   | (exfalso; omega)
   | exact (DE hgu ‹_› ‹_›).elim
   | exact (DF hgu ‹_› ‹_›).elim
   | exact (DG hgu ‹_› ‹_› ‹_› ‹_›).elim
   | exact (DH hgu ‹_› ‹_› ‹_› ‹_›).elim
   | (exfalso; simp_all; done)
 have lp:((cw.length:Nat):Int) = ((l.length:Nat):Int):=by simpa using eE
 refine wp_skip (A4 (wp_seq ?_))
 let af:Nat × SV:=(23,.v (.slice A l.length c))
 let ag:Nat × SV:=(24,.v (.int .i64 ((l.length:Nat):Int)))
 refine B7 [ab,ac,(2,.v (.bool flex)),ae,aa,af,ag,(25,.v (.int .i64 0))] bR eD fun oe ja=>?_
 refine wp_block ?_
 let aP:Ob:=⟨lc,0,[.int .i64 n1,bW,.bool b3,bX,bu],true⟩
 let aQ:Ob:=⟨lh,0,[.int .i64 jQ,.slice jT jR.length jU,.bool jS,.slice fj cw.length iU,.slice fk bQ.length iV],true⟩
 refine wp_loop_ghost (fun n_ a_ w_=>∃ (k:Nat),n_ = l.length - k ∧ k ≤ l.length ∧ F9 bR 120 [aP,aQ] [] [ab,ac,(2,.v (.bool flex)),ae,aa,af,ag,(25,.v (.int .i64 ((k:Nat):Int)))] a_ w_) (l.length) ⟨0,by omega,by omega,ja.pk,bR,Fr.refl _ _ _⟩ ?_
 rintro og oh ol ⟨k,lq,lr,jb,aJ,eF⟩
 let ah:Nat × SV:=(25,.v (.int .i64 ((k:Nat):Int)))
 refine B7 [ab,ac,(2,.v (.bool flex)),ae,aa,af,ag,ah,(26,.v (.bool (decide (((k:Nat):Int) < ((l.length:Nat):Int)))))] aJ jb fun om eG=>?_
 refine wp_seq ?_
 let aC:Value:=.slice none 0 0
 refine D4 eG (b:=decide (((k:Nat):Int) < ((l.length:Nat):Int))) kz (fun eH=>?_) (fun eH=>?_)
 ·
  have ls:=of_decide_eq_true eH
  refine wp_skip (A4 (wp_seq (wp_block (C0 [0,1,2,3,4,5] kz ?_))))
  refine B1 [0] [1,2,3,4,5] [ab,ac,(2,.v (.bool flex)),ae,aa,af,ag,ah,(27,.v (.int .i64 ((k:Nat):Int)))] aJ eG fun oq jc=>?_
  obtain ⟨lu,lv,jd,lw,dB⟩:=Slots.get h1 (i:=k) (by first | omega | (have h_:=W0 hgu ‹_›; omega))
  obtain ⟨lx,cA⟩:∃ x,l[k]? = some x:=⟨_,List.getElem?_eq_getElem (by omega)⟩
  have bS:=h2 k lx cA
  obtain ⟨aR,aS,aT,aU,aK,aV,am,ao,eI,eJ,j0,rfl,cB,je,ly⟩:=bS.open_
  rw [cB] at bS
  have jf:=je.small
  rw [cB] at dB
  refine B2 (G6 jc (t:=29) (A:=A) (m:=l.length) (q:=((k:Nat):Int)) (d:=28) kz (e:=51) (size:=8) (bytes:=80) kz jd rfl (by first | omega | (have h_:=W0 hgu ‹_›; omega)) fun lz fm=>?_)
  let ap:Value:=.int .i64 aR
  let ar:Value:=.int .i64 aS
  let au:Value:=.int .i64 aT
  let av:Value:=.int .i64 aU
  let aw:Value:=.int .i64 aK
  let ax:Value:=.int .i64 aV
  let ay:Value:=.int .i64 am
  let az:Value:=.slice eI ao.length eJ
  let j1:Value:=.agg #[.int .i64 aR,.int .i64 aS,.int .i64 aT,.int .i64 aU,.int .i64 aK,.int .i64 aV,.int .i64 am,.slice eI ao.length eJ]
  refine B2 (K3 fm (t:=51) (b:=lu) (o:=lv + k * 8) (d:=29) kz (cs:=[ap,ar,au,av,aw,ax,ay,az]) (v:=.agg #[ap,ar,au,av,aw,ax,ay,az]) kz (AtF.move dB aJ.step A7 E8).at_ fun lA fo=>?_)
  let aF:Value:=.int .i64 0
  refine B2 (H4 aJ fo (d:=12) (cs:=[aF,aF,aF,aF,aF,aF,aF,aC]) kz fun jg lB lC j2 j3 cC dC fq=>?_)
  let ai:Nat × SV:=(11,.v (.int .i64 ((k:Nat):Int)))
  let aj:Nat × SV:=(12,.p 2 0)
  let j4:Value:=(.agg #[.int .i64 aR,.int .i64 aS,.int .i64 aT,.int .i64 aU,.int .i64 aK,.int .i64 aV,.int .i64 am,.slice eI ao.length eJ])
  refine B1 [4] [5] [ab,ac,(2,.v (.bool flex)),ae,aa,ai,aj,af,ag,ah,(29,.v (.agg #[ap,ar,au,av,aw,ax,ay,az]))] dC fq fun lD fr=>?_
  refine B2 (D5 dC fr (oi:=2) (cs:=[ap,ar,au,av,aw,ax,ay,az]) kz fun lE cD bj ft=>?_)
  refine B5 (A4 ?_)
  refine C0 [0,1,2,3,4] kz ?_
  refine B1 [0,1] [2,3,4] [ab,ac,(2,.v (.bool flex)),ae,aa,ai,aj,af,ag,ah,(30,.v (.agg #[.int .i64 n1,bW,.bool b3,bX,bu])),(31,.v (.int .i64 ((k:Nat):Int)))] bj ft fun lF fv=>?_
  refine B2 (D3 fv (f:=23) (vs:=[.agg #[.int .i64 n1,bW,.bool b3,bX,bu],.int .i64 ((k:Nat):Int)]) (d:=32) kz Tryz.call23 (Cx _ _ k _ _ (ht.move bj.step A7 bj.imm)) ?_)
  rintro e_ lG ⟨j5,rfl,fw,bx⟩
  have bz:=fw.move bx A7 (fun b o h_ hb_=>bj.laid (G:=F) bx b o (.inl h_) (Nat.lt_of_lt_of_le hb_ bx.size))
  obtain ⟨eK,eL,eM,eN,eO,eP,eQ,eR,eS,eU,eV,j6,j7,cE,jh,ji,lH,lI⟩:=bz.open_
  rw [cE] at bz
  have jj:=jh.small
  have jk:=ji.small
  rw [cE]
  refine ⟨_,rfl,fun lJ fx=>?_⟩
  have fy:=bj.next_nil bx
  have cG:=bj.frN bx
  let bA:Value:=.bool false
  refine B2 (H4 fy fx (d:=13) (cs:=[aF,aC,bA,aC,aC]) kz fun jl lK lL j8 j9 aL fz fA=>?_)
  let aW:Value:=.int .i64 eK
  let aX:Value:=.slice eP eL.length eQ
  let aY:Value:=.bool eM
  let aZ:Value:=.slice eR eN.length eS
  let ba:Value:=.slice eU eO.length eV
  refine B2 (D5 fz fA (oi:=3) (cs:=[aW,aX,aY,aZ,ba]) kz fun lM aM al fB=>?_)
  refine B5 (A4 ?_)
  refine wp_seq ?_
  let ak:Nat × SV:=(13,.p 3 0)
  let ka:Value:=(.agg #[.int .i64 eK,.slice eP eL.length eQ,.bool eM,.slice eR eN.length eS,.slice eU eO.length eV])
  let kd:Value:=.agg #[.int .i64 eK,.slice eP eL.length eQ,.bool eM,.slice eR eN.length eS,.slice eU eO.length eV]
  refine wp_seq (Gx (Mid:=fun a_ w_=>F9 al 120 [aP,aQ,⟨jg,0,[ap,ar,au,av,aw,ax,ay,az],true⟩,⟨jl,0,[aW,aX,aY,aZ,ba],true⟩] [] [ab,ac,(2,.v (.bool flex)),ae,aa,ai,aj,ak,af,ag,ah,(54,.v (.bool (Fld.pres (Fld.mk aR aS aT aU aK aV am ao) v flex (Tree.at_ (Tree.mk n1 s2 b3 l4 u5) k))))] a_ w_) ?_ ?_)
  ·
   refine D7 [0,1,2,3,4,5,6,7,8,9,10,11,12,13,14,15,16,17,18,19,20,21] kz ?_
   refine B1 [0,1,2,3] [4,5,6,7,8,9,10,11,12,13,14,15,16,17,18,19,20,21] [ab,ac,(2,.v (.bool flex)),ae,aa,ai,aj,ak,af,ag,ah,(36,.v (.bool (decide (aK < 0))))] al fB fun lN dD=>?_
   let bk:Nat × SV:=(2,.v (.bool true))
   let aG:Nat × SV:=(41,.v (.bool false))
   let dE:C6:=[ab,ac,bk,ae,aa,ai,aj,ak,af,ag,ah,aG,(48,.v (.bool true))]
   let dF:C6:=[ab,ac,bk,ae,aa,ai,aj,ak,af,ag,ah,aG,(48,.v (.bool true)),(49,.v (.agg #[ap,ar,au,av,aw,ax,ay,az])),(50,.v (.agg #[aW,aX,aY,aZ,ba]))]
   let dG:C6:=[ab,ac,(2,.v (.bool false)),ae,aa,ai,aj,ak,af,ag,ah,aG,(48,.v (.bool false))]
   let bB:Nat × SV:=(54,.v (.bool false))
   let bY:C6:=[ab,ac,(2,.v (.bool false)),ae,aa,ai,aj,ak,af,ag,ah,bB]
   refine (Bool.eq_false_or_eq_true (decide (aK < 0))).elim (fun bC=>?_) (fun bC=>?_)
   ·
    have ke:=of_decide_eq_true bC
    have fC:=dD
    rw [bC] at fC
    refine B1 [4,5] [6,7,8,9,10,11,12,13,14,15,16,17,18,19,20,21] [ab,ac,(2,.v (.bool flex)),ae,aa,ai,aj,ak,af,ag,ah,(36,.v (.bool true)),(37,.v (.agg #[ap,ar,au,av,aw,ax,ay,az])),(38,.v (.int .i64 v))] al fC fun lO fD=>?_
    refine B2 (D3 fD (f:=24) (vs:=[.agg #[ap,ar,au,av,aw,ax,ay,az],.int .i64 v]) (d:=39) kz Tryz.call24 (Dn aR aS aT aU aK aV am ao _ _ v _) ?_)
    rintro e_ lP ⟨rfl,dH⟩
    refine ⟨_,rfl,fun lQ fE=>?_⟩
    have aB:=al.next_nil dH
    have bn:=al.frN dH
    refine B1 [7,8] [9,10,11,12,13,14,15,16,17,18,19,20,21] [ab,ac,(2,.v (.bool flex)),ae,aa,ai,aj,ak,af,ag,ah,(41,.v (.bool (Fld.has (Fld.mk aR aS aT aU aK aV am ao) v)))] aB fE fun lR dI=>?_
    refine (Bool.eq_false_or_eq_true (Fld.has (Fld.mk aR aS aT aU aK aV am ao) v)).elim (fun cH=>?_) (fun cH=>?_)
    ·
     have fF:=dI
     rw [cH] at fF
     refine B1 [9,10,11,12,13,14,15,16,17,18,19,20,21] [] [ab,ac,(2,.v (.bool flex)),ae,aa,ai,aj,ak,af,ag,ah,(54,.v (.bool true))] aB fF fun lS fG=>?_
     refine B5 (A4 ?_)
     have hp_:Fld.pres (Fld.mk aR aS aT aU aK aV am ao) v flex (Tree.at_ (Tree.mk n1 s2 b3 l4 u5) k) = true:=by first | (first | exact NP ‹_› ‹_› | exact NQ ‹_› ‹_› ‹_›) | (exfalso; omega)
     exact ⟨(fG.pk (env':=[ab,ac,(2,.v (.bool flex)),ae,aa,ai,aj,ak,af,ag,ah,(54,.v (.bool true))])).cast (by rw [hp_]),aB,bn⟩
    have fH:=dI
    rw [cH] at fH
    refine B1 [9,10,11,12] [13,14,15,16,17,18,19,20,21] [ab,ac,(2,.v (.bool flex)),ae,aa,ai,aj,ak,af,ag,ah,aG,(45,.v (.bool (decide (aK ≥ 0))))] aB fH fun lT dJ=>?_
    refine (Bool.eq_false_or_eq_true (decide (aK ≥ 0))).elim (fun bD=>?_) (fun bD=>?_)
    ·
     have kf:=of_decide_eq_true bD
     have fI:=dJ
     rw [bD] at fI
     refine B1 [13,14,15] [16,17,18,19,20,21] [ab,ac,(2,.v (.bool flex)),ae,aa,ai,aj,ak,af,ag,ah,aG,(48,.v (.bool flex))] aB fI fun lU dK=>?_
     refine (Bool.eq_false_or_eq_true (flex)).elim (fun bE=>?_) (fun bE=>?_)
     ·
      have fJ:=dK.cast (env':=dE) (by rw [bE])
      refine B1 [16,17] [18,19,20,21] dF aB fJ fun lV fK=>?_
      refine B2 (D3 fK (f:=25) (vs:=[.agg #[ap,ar,au,av,aw,ax,ay,az],.agg #[aW,aX,aY,aZ,ba]]) (d:=51) kz Tryz.call25 (EB _ _ _ _ _ _ _ (bS.move aB.step A7 aB.imm) (Nat.le_refl _) (bz.move ((aL.trans aM).trans bn).step immM ((aL.trans aM).trans bn).to')) ?_)
      rintro e_ lW ⟨rfl,dL⟩
      refine ⟨_,rfl,fun lX fL=>?_⟩
      have dM:=aB.next_nil dL
      have fM:=aB.frN dL
      refine B1 [19,20,21] [] [ab,ac,bk,ae,aa,ai,aj,ak,af,ag,ah,(54,.v (.bool (!(Fld.usual (Fld.mk aR aS aT aU aK aV am ao) (Tree.at_ (Tree.mk n1 s2 b3 l4 u5) k)))))] dM fL fun lY fN=>?_
      refine B5 (A4 ?_)
      have hp_:Fld.pres (Fld.mk aR aS aT aU aK aV am ao) v flex (Tree.at_ (Tree.mk n1 s2 b3 l4 u5) k) = !(Fld.usual (Fld.mk aR aS aT aU aK aV am ao) (Tree.at_ (Tree.mk n1 s2 b3 l4 u5) k)):=by first | (first | exact JW ‹_› ‹_› | exact JX ‹_›) | (exfalso; omega)
      exact ⟨(fN.pk (env':=[ab,ac,bk,ae,aa,ai,aj,ak,af,ag,ah,(54,.v (.bool (!(Fld.usual (Fld.mk aR aS aT aU aK aV am ao) (Tree.at_ (Tree.mk n1 s2 b3 l4 u5) k)))))])).cast (by rw [hp_,bE]),dM,(bn.trans fM)⟩
     have fO:=dK.cast (env':=dG) (by rw [bE])
     refine B1 [16,17,18,19,20,21] [] bY aB fO fun lZ fP=>?_
     refine B5 (A4 ?_)
     have hp_:Fld.pres (Fld.mk aR aS aT aU aK aV am ao) v flex (Tree.at_ (Tree.mk n1 s2 b3 l4 u5) k) = false:=by first | (first | exact Ff ‹_› ‹_› | exact Fg ‹_› ‹_› | exact Fh ‹_› ‹_›) | (exfalso; omega)
     exact ⟨(fP.pk (env':=bY)).cast (by rw [hp_,bE]),aB,bn⟩
    have kg:=of_decide_eq_false bD
    have fQ:=dJ
    rw [bD] at fQ
    refine B1 [13,14,15,16,17,18,19,20,21] [] [ab,ac,(2,.v (.bool flex)),ae,aa,ai,aj,ak,af,ag,ah,bB] aB fQ fun l0 fR=>?_
    refine B5 (A4 ?_)
    have hp_:Fld.pres (Fld.mk aR aS aT aU aK aV am ao) v flex (Tree.at_ (Tree.mk n1 s2 b3 l4 u5) k) = false:=by first | (first | exact Ff ‹_› ‹_› | exact Fg ‹_› ‹_› | exact Fh ‹_› ‹_›) | (exfalso; omega)
    exact ⟨(fR.pk (env':=[ab,ac,(2,.v (.bool flex)),ae,aa,ai,aj,ak,af,ag,ah,bB])).cast (by rw [hp_]),aB,bn⟩
   have kh:=of_decide_eq_false bC
   have fS:=dD
   rw [bC] at fS
   refine B1 [4,5,6,7,8,9,10,11,12] [13,14,15,16,17,18,19,20,21] [ab,ac,(2,.v (.bool flex)),ae,aa,ai,aj,ak,af,ag,ah,aG,(45,.v (.bool (decide (aK ≥ 0))))] al fS fun l3 dN=>?_
   refine (Bool.eq_false_or_eq_true (decide (aK ≥ 0))).elim (fun bF=>?_) (fun bF=>?_)
   ·
    have ki:=of_decide_eq_true bF
    have fT:=dN
    rw [bF] at fT
    refine B1 [13,14,15] [16,17,18,19,20,21] [ab,ac,(2,.v (.bool flex)),ae,aa,ai,aj,ak,af,ag,ah,aG,(48,.v (.bool flex))] al fT fun l5 dO=>?_
    refine (Bool.eq_false_or_eq_true (flex)).elim (fun bG=>?_) (fun bG=>?_)
    ·
     have fU:=dO.cast (env':=dE) (by rw [bG])
     refine B1 [16,17] [18,19,20,21] dF al fU fun l6 fV=>?_
     refine B2 (D3 fV (f:=25) (vs:=[.agg #[ap,ar,au,av,aw,ax,ay,az],.agg #[aW,aX,aY,aZ,ba]]) (d:=51) kz Tryz.call25 (EB _ _ _ _ _ _ _ (bS.move al.step A7 al.imm) (Nat.le_refl _) (bz.move (aL.trans aM).step immM (aL.trans aM).to')) ?_)
     rintro e_ l7 ⟨rfl,dP⟩
     refine ⟨_,rfl,fun l9 fW=>?_⟩
     have dQ:=al.next_nil dP
     have fX:=al.frN dP
     refine B1 [19,20,21] [] [ab,ac,bk,ae,aa,ai,aj,ak,af,ag,ah,(54,.v (.bool (!(Fld.usual (Fld.mk aR aS aT aU aK aV am ao) (Tree.at_ (Tree.mk n1 s2 b3 l4 u5) k)))))] dQ fW fun ma fY=>?_
     refine B5 (A4 ?_)
     have hp_:Fld.pres (Fld.mk aR aS aT aU aK aV am ao) v flex (Tree.at_ (Tree.mk n1 s2 b3 l4 u5) k) = !(Fld.usual (Fld.mk aR aS aT aU aK aV am ao) (Tree.at_ (Tree.mk n1 s2 b3 l4 u5) k)):=by first | (first | exact JW ‹_› ‹_› | exact JX ‹_›) | (exfalso; omega)
     exact ⟨(fY.pk (env':=[ab,ac,bk,ae,aa,ai,aj,ak,af,ag,ah,(54,.v (.bool (!(Fld.usual (Fld.mk aR aS aT aU aK aV am ao) (Tree.at_ (Tree.mk n1 s2 b3 l4 u5) k)))))])).cast (by rw [hp_,bG]),dQ,fX⟩
    have fZ:=dO.cast (env':=dG) (by rw [bG])
    refine B1 [16,17,18,19,20,21] [] bY al fZ fun mc f5=>?_
    refine B5 (A4 ?_)
    have hp_:Fld.pres (Fld.mk aR aS aT aU aK aV am ao) v flex (Tree.at_ (Tree.mk n1 s2 b3 l4 u5) k) = false:=by first | (first | exact Ff ‹_› ‹_› | exact Fg ‹_› ‹_› | exact Fh ‹_› ‹_›) | (exfalso; omega)
    exact ⟨(f5.pk (env':=bY)).cast (by rw [hp_,bG]),al,Fr.refl _ _ _⟩
   have kj:=of_decide_eq_false bF
   have f7:=dN
   rw [bF] at f7
   refine B1 [13,14,15,16,17,18,19,20,21] [] [ab,ac,(2,.v (.bool flex)),ae,aa,ai,aj,ak,af,ag,ah,bB] al f7 fun md f8=>?_
   refine B5 (A4 ?_)
   have hp_:Fld.pres (Fld.mk aR aS aT aU aK aV am ao) v flex (Tree.at_ (Tree.mk n1 s2 b3 l4 u5) k) = false:=by first | (first | exact Ff ‹_› ‹_› | exact Fg ‹_› ‹_› | exact Fh ‹_› ‹_›) | (exfalso; omega)
   exact ⟨(f8.pk (env':=[ab,ac,(2,.v (.bool flex)),ae,aa,ai,aj,ak,af,ag,ah,bB])).cast (by rw [hp_]),al,Fr.refl _ _ _⟩
  rintro me mf ⟨cI,dR,bH⟩
  refine D4 cI (b:=Fld.pres (Fld.mk aR aS aT aU aK aV am ao) v flex (Tree.at_ (Tree.mk n1 s2 b3 l4 u5) k)) kz (fun f9=>?_) (fun f9=>?_)
  ·
   refine wp_seq (G0 11 kz dR fun mg cJ bd cK=>?_)
   refine C7 [0,1,2,3,4,5,6] [ab,ac,(2,.v (.bool flex)),ae,aa,af,ag,ah,(55,.v (.agg #[ap,ar,au,av,aw,ax,ay,az])),(56,.v (.int .i64 v)),(57,.v (.bool flex)),(58,.v (.agg #[aW,aX,aY,aZ,ba])),(60,.v (.slice fj cw.length iU)),(61,.v (.int .i64 ((k:Nat):Int)))] 4 (A5 (A5 (A5 (B6 (A5 (A5 (B6 (A5 B8)))))))) (fun _ h=>h.cells) cK cI fun mh ga=>?_
   obtain ⟨jm,jn,gb,km,cL⟩:=Slots.get iW (i:=k) (by first | omega | (have h_:=W0 hgu ‹_›; omega))
   obtain ⟨jo,dS⟩:∃ x,cw[k]? = some x:=⟨_,List.getElem?_eq_getElem (by omega)⟩
   have cM:=jV k jo dS
   obtain ⟨cN,eW,cO,eX,eY,gc,gd,ge,gg,gh,gi,ko,rfl,cP,jp,jq,mj,ml⟩:=cM.open_
   rw [cP] at cM
   have jr:=jp.small
   have js:=jq.small
   rw [cP] at cL
   refine F6 ga (i:=7) (t:=23) (A:=fj) (m:=cw.length) (q:=((k:Nat):Int)) (d:=62) kz (e:=26) (size:=5) (bytes:=88) kz gb rfl (by first | omega | (have h_:=W0 hgu ‹_›; omega)) kz kz (A5 (A5 (A5 (B6 (A5 (A5 (B6 (A5 B8)))))))) cK fun mn gj=>?_
   let cQ:Value:=.slice gc eW.length gd
   let cR:Value:=.slice ge eX.length gg
   let cS:Value:=.slice gh eY.length gi
   let kp:Value:=.agg #[.int .i64 cN,.slice gc eW.length gd,.bool cO,.slice ge eX.length gg,.slice gh eY.length gi]
   refine J4 gj (i:=8) (t:=26) (b:=jm) (o:=jn + k * 5) (d:=63) kz (cs:=[.int .i64 cN,cQ,.bool cO,cR,cS]) (v:=.agg #[.int .i64 cN,cQ,.bool cO,cR,cS]) kz (fun w' h'=>(AtF.move cL (TT.step0 bd h') A7 E8).at_) kz kz (A5 (A5 (A5 (B6 (A5 (A5 (B6 (A5 B8)))))))) cK fun mo gk=>?_
   refine C2 (i:=9) kz (D3 gk (f:=26) (vs:=[.agg #[ap,ar,au,av,aw,ax,ay,az],.int .i64 v,.bool flex,.agg #[aW,aX,aY,aZ,ba],.agg #[.int .i64 cN,cQ,.bool cO,cR,cS]]) (d:=64) kz Tryz.call26 ( Pf hT _ _ _ (Tree.at_ (Tree.mk n1 s2 b3 l4 u5) k) _ (Tree.mk cN eW cO eX eY) _ _ (bS.move bd.step A7 bd.imm) (Io hpl (List.mem_of_getElem? cA)) (bz.move (((aL.trans aM).trans bH).trans cJ).step immM (((aL.trans aM).trans bH).trans cJ).to') (cM.move bd.step A7 bd.imm) ((hP.2.1 k _ _ cA dS).1 ‹_›)) ?_)
   rintro e_ mp ⟨rfl,dT⟩
   refine ⟨_,rfl,fun mq gl=>?_⟩
   have cT:=bd.next_nil dT
   have dU:=bd.frN dT
   have dV:=TT.ofW dU cT
   refine ⟨fun _=>dV,?_⟩
   refine C7 [10] [ab,ac,(2,.v (.bool flex)),ae,aa,af,ag,ah,(65,.v (.bool false))] 0 (A5 (A5 (A5 (B6 (A5 (A5 (B6 (A5 B8)))))))) (fun _ h=>h.cells) dV gl fun mr dW=>?_
   refine E5 kz ?_ _
   refine A4 (E6 dW (b:=false) kz rfl ?_)
   refine wp_skip (A4 (wp_exit (E7 (G9 (A4 (D7 [0,1] kz ?_))))))
   refine B1 [0,1] [] [ab,ac,(2,.v (.bool flex)),ae,aa,af,ag,(25,.v (.int .i64 (IntKind.i64.wrap (((k:Nat):Int) + 1))))] cT dW fun mt gm=>?_
   refine B5 (A4 ?_)
   obtain ⟨dX,gn,gp⟩:=cT.cutB gm 2 [aP,aQ] [ab,ac,(2,.v (.bool flex)),ae,aa,af,ag,(25,.v (.int .i64 (IntKind.i64.wrap (((k:Nat):Int) + 1))))]
   have gq:IntKind.i64.wrap (((k:Nat):Int) + 1) = ((k + 1:Nat):Int):=G8 (by omega)
   rw [gq] at dX
   exact ⟨l.length - (k + 1),by omega,k + 1,rfl,by omega,dX.pk,gn,(((((((((eF.trans cC).trans cD).trans cG).trans aL).trans aM).trans bH).trans cJ).trans dU).trans gp)⟩
  refine wp_skip (A4 (G0 11 kz dR fun mu dY cU cV=>?_))
  let dZ:Nat × SV:=(66,.v (.agg #[ap,ar,au,av,aw,ax,ay,az]))
  refine C7 [0,2,3,4] [ab,ac,(2,.v (.bool flex)),ae,aa,af,ag,ah,dZ,(69,.v (.slice fj cw.length iU)),(70,.v (.int .i64 ((k:Nat):Int)))] 7 (A5 (B6 (A5 (A5 (B6 (A5 B8)))))) (fun _ h=>h.cells) cV cI fun mw gt=>?_
  obtain ⟨jt,ju,gv,kq,cW⟩:=Slots.get iW (i:=k) (by first | omega | (have h_:=W0 hgu ‹_›; omega))
  obtain ⟨jv,cX⟩:∃ x,cw[k]? = some x:=⟨_,List.getElem?_eq_getElem (by omega)⟩
  have bZ:=jV k jv cX
  obtain ⟨eZ,e9,cz,fb,fe,jw,jx,jy,jz,jA,jB,ku,rfl,cY,jC,jD,mx,my⟩:=bZ.open_
  rw [cY] at bZ
  have jE:=jC.small
  have jF:=jD.small
  rw [cY] at cW
  refine F6 gt (i:=5) (t:=23) (A:=fj) (m:=cw.length) (q:=((k:Nat):Int)) (d:=71) kz (e:=26) (size:=5) (bytes:=88) kz gv rfl (by first | omega | (have h_:=W0 hgu ‹_›; omega)) kz kz (A5 (B6 (A5 (A5 (B6 (A5 B8)))))) cV fun mz gw=>?_
  let b8:Value:=.int .i64 eZ
  let cd:Value:=.slice jw e9.length jx
  let ce:Value:=.slice jy fb.length jz
  let cm:Value:=.slice jA fe.length jB
  refine J4 gw (i:=6) (t:=26) (b:=jt) (o:=ju + k * 5) (d:=72) kz (cs:=[b8,cd,.bool cz,ce,cm]) (v:=.agg #[b8,cd,.bool cz,ce,cm]) kz (fun w' h'=>(AtF.move cW (TT.step0 cU h') A7 E8).at_) kz kz (A5 (B6 (A5 (A5 (B6 (A5 B8)))))) cV fun mA d4=>?_
  refine Bp (i:=1) (j:=7) kz ?_ ?_
  ·
   refine (L3 cU d4 (e:=51) (size:=8) (len:=1) (cs:=[ap,ar,au,av,aw,ax,ay,az]) (d:=67) kz kz fun gx mB mC kv kw cq d5 gy=>?_)
   have gz:=TT.ofW cq d5
   refine ⟨fun _=>gz,?_⟩
   refine C2 (i:=7) kz (L3 d5 gy (e:=26) (size:=5) (len:=1) (cs:=[b8,cd,.bool cz,ce,cm]) (d:=73) kz kz fun gA mD mF kx ky cZ aN gB=>?_)
   have d6:=TT.ofW (cq.trans cZ) aN
   refine ⟨fun _=>d6,?_⟩
   refine C7 [8] [ab,ac,(2,.v (.bool flex)),ae,aa,af,ag,ah,(67,.v (.slice (some ⟨gx,0,none⟩) 1 1)),(74,.v (.agg #[aF,aC,bA,.slice (some ⟨gA,0,none⟩) 1 1,aC]))] 2 (A5 (B6 (A5 (A5 (B6 (A5 B8)))))) (fun _ h=>h.cells) d6 gB fun mG gC=>?_
   refine C2 (i:=9) kz (D3 gC (f:=27) (vs:=[.slice (some ⟨gx,0,none⟩) 1 1,.agg #[aF,aC,bA,.slice (some ⟨gA,0,none⟩) 1 1,aC]]) (d:=75) kz Tryz.call27 ( Fq hU _ _ [(Fld.mk aR aS aT aU aK aV am ao)] _ (.mk 0 [] false [(Tree.mk eZ e9 cz fb fe)] []) _ _ (JZ (aN.own 0 _ rfl) ((bS.move aN.step A7 aN.imm)) (Nat.le_refl _)) (Ka (aN.own 1 _ rfl) ((bZ.move aN.step A7 aN.imm)) (Nat.le_refl _)) (JT ((hP.2.1 k _ _ cA cX).2 ‹_›))) ?_)
   rintro e_ mH ⟨rfl,d7⟩
   refine ⟨_,rfl,fun mI gD=>?_⟩
   have da:=aN.next_nil d7
   have d8:=aN.frN d7
   have d9:=TT.ofW ((cq.trans cZ).trans d8) da
   refine ⟨fun _=>d9,?_⟩
   refine C7 [10] [ab,ac,(2,.v (.bool flex)),ae,aa,af,ag,ah,(76,.v (.bool false))] 0 (A5 (B6 (A5 (A5 (B6 (A5 B8)))))) (fun _ h=>h.cells) d9 gD fun mJ ea=>?_
   refine E5 kz ?_ _
   refine A4 (E6 ea (b:=false) kz rfl ?_)
   refine wp_skip (F2 (A4 (D7 [0,1] kz ?_)))
   refine B1 [0,1] [] [ab,ac,(2,.v (.bool flex)),ae,aa,af,ag,(25,.v (.int .i64 (IntKind.i64.wrap (((k:Nat):Int) + 1))))] da ea fun mK gE=>?_
   refine B5 (A4 ?_)
   obtain ⟨eb,gF,gG⟩:=da.cutB gE 2 [aP,aQ] [ab,ac,(2,.v (.bool flex)),ae,aa,af,ag,(25,.v (.int .i64 (IntKind.i64.wrap (((k:Nat):Int) + 1))))]
   obtain ⟨gH,gI⟩:=gF.cutR 0 []
   have gJ:IntKind.i64.wrap (((k:Nat):Int) + 1) = ((k + 1:Nat):Int):=G8 (by omega)
   rw [gJ] at eb
   exact ⟨l.length - (k + 1),by omega,k + 1,rfl,by omega,eb.pk,gH,((((((((((((eF.trans cC).trans cD).trans cG).trans aL).trans aM).trans bH).trans dY).trans cq).trans cZ).trans d8).trans gG).trans gI)⟩
  refine (L3 cU d4 (e:=26) (size:=5) (len:=1) (cs:=[b8,cd,.bool cz,ce,cm]) (d:=73) kz kz fun gK mL mM kA kB cr ec gL=>?_)
  have ee:=TT.ofW cr ec
  refine ⟨fun _=>ee,?_⟩
  refine C7 [8] [ab,ac,(2,.v (.bool flex)),ae,aa,af,ag,ah,dZ,(74,.v (.agg #[aF,aC,bA,.slice (some ⟨gK,0,none⟩) 1 1,aC]))] 3 (A5 (B6 (A5 (A5 (B6 (A5 B8)))))) (fun _ h=>h.cells) ee gL fun mN gM=>?_
  refine C2 (i:=1) kz (L3 ec gM (e:=51) (size:=8) (len:=1) (cs:=[ap,ar,au,av,aw,ax,ay,az]) (d:=67) kz kz fun jG mO mQ kC kD db aO gN=>?_)
  have gO:=TT.ofW (cr.trans db) aO
  refine ⟨fun _=>gO,?_⟩
  refine C2 (i:=9) kz (D3 gN (f:=27) (vs:=[.slice (some ⟨jG,0,none⟩) 1 1,.agg #[aF,aC,bA,.slice (some ⟨gK,0,none⟩) 1 1,aC]]) (d:=75) kz Tryz.call27 ( Fq hU _ _ [(Fld.mk aR aS aT aU aK aV am ao)] _ (.mk 0 [] false [(Tree.mk eZ e9 cz fb fe)] []) _ _ (JZ (aO.own 1 _ rfl) ((bS.move aO.step A7 aO.imm)) (Nat.le_refl _)) (Ka (aO.own 0 _ rfl) ((bZ.move aO.step A7 aO.imm)) (Nat.le_refl _)) (JT ((hP.2.1 k _ _ cA cX).2 ‹_›))) ?_)
  rintro e_ mR ⟨rfl,ef⟩
  refine ⟨_,rfl,fun mS gP=>?_⟩
  have dc:=aO.next_nil ef
  have eg:=aO.frN ef
  have eh:=TT.ofW ((cr.trans db).trans eg) dc
  refine ⟨fun _=>eh,?_⟩
  refine C7 [10] [ab,ac,(2,.v (.bool flex)),ae,aa,af,ag,ah,(76,.v (.bool false))] 0 (A5 (B6 (A5 (A5 (B6 (A5 B8)))))) (fun _ h=>h.cells) eh gP fun mT ei=>?_
  refine E5 kz ?_ _
  refine A4 (E6 ei (b:=false) kz rfl ?_)
  refine wp_skip (F2 (A4 (D7 [0,1] kz ?_)))
  refine B1 [0,1] [] [ab,ac,(2,.v (.bool flex)),ae,aa,af,ag,(25,.v (.int .i64 (IntKind.i64.wrap (((k:Nat):Int) + 1))))] dc ei fun mU gQ=>?_
  refine B5 (A4 ?_)
  obtain ⟨ej,gR,gS⟩:=dc.cutB gQ 2 [aP,aQ] [ab,ac,(2,.v (.bool flex)),ae,aa,af,ag,(25,.v (.int .i64 (IntKind.i64.wrap (((k:Nat):Int) + 1))))]
  obtain ⟨gT,gU⟩:=gR.cutR 0 []
  have gV:IntKind.i64.wrap (((k:Nat):Int) + 1) = ((k + 1:Nat):Int):=G8 (by omega)
  rw [gV] at ej
  exact ⟨l.length - (k + 1),by omega,k + 1,rfl,by omega,ej.pk,gT,((((((((((((eF.trans cC).trans cD).trans cG).trans aL).trans aM).trans bH).trans dY).trans cr).trans db).trans eg).trans gS).trans gU)⟩
 have kE:=of_decide_eq_false eH
 refine wp_exit (E7 (E7 (G9 (A4 (C0 [0,1,2,3,4] kz ?_)))))
 refine B1 [0,1,2] [3,4] [(2,.v (.bool flex)),aa,(78,.v (.slice A l.length c)),(80,.v (.slice jM u5.length jN))] aJ eG fun mV gW=>?_
 refine B2 (D3 gW (f:=28) (vs:=[.slice A l.length c,bu]) (d:=81) kz Tryz.call28 (Gs _ _ l _ _ u5 _ _ ⟨xfs,(h1.move aJ.step A7 aJ.imm),(fun i_ x_ h_=>((h2 i_ x_ h_).move aJ.step A7 aJ.imm))⟩ (k6.move aJ.step A7 aJ.imm)) ?_)
 rintro e_ mW ⟨aD,aE,rfl,gX,de⟩
 have gY:=gX.move (Step.refl _ C1) A7 (aJ.laid (G:=F) de)
 refine ⟨_,rfl,fun mX gZ=>?_⟩
 have aA:=aJ.next_nil de
 have kF:=aJ.frN de
 refine B1 [4] [] [(2,.v (.bool flex)),aa,(14,.v (.slice aD ((C4 l u5).length) aE))] aA gZ fun mY hC=>?_
 refine B5 (A4 ?_)
 refine wp_seq (B7 [aa,(14,.v (.slice aD ((C4 l u5).length) aE)),(83,.v (.bool (!flex)))] aA hC fun mZ df=>?_)
 refine D4 df (b:=!flex) kz (fun hJ=>?_) (fun hJ=>?_)
 ·
  refine D7 [0] kz ?_
  refine B1 [0] [] [aa,(14,.v (.slice none 0 0))] aA df fun m4 hK=>?_
  refine B5 (A4 ?_)
  refine wp_seq (B7 [aa,(14,.v (.slice none 0 0)),(89,.v (.bool (((bQ.length:Nat):Int) != 0)))] aA hK fun m5 dg=>?_)
  refine D4 dg (b:=((bQ.length:Nat):Int) != 0) kz (fun dh=>?_) (fun dh=>?_)
  ·
   have kG:((bQ.length:Nat):Int) ≠ 0:=by simpa using dh
   refine B7 [bw] aA dg fun m6 hZ=>?_
   refine wp_ret (D6 (C8 hZ aA.cells (v:=.bool false) kz ?_))
   first
    | (exfalso; omega)
    | exact (DE hgu ‹_› ‹_›).elim
    | exact (DF hgu ‹_› ‹_›).elim
    | exact (DG hgu ‹_› ‹_› ‹_› ‹_›).elim
    | exact (DH hgu ‹_› ‹_› ‹_› ‹_›).elim
    | (exfalso; simp_all; done)
  have kH:((bQ.length:Nat):Int) = 0:=by simpa using dh
  refine wp_skip (A4 (wp_seq ?_))
  let di:Nat × SV:=(90,.v (.slice none 0 0))
  let dj:Nat × SV:=(91,.v (.int .i64 0))
  refine B7 [aa,di,dj,(92,.v (.int .i64 0))] aA dg fun m7 ia=>?_
  refine wp_block (wp_loop_ghost (fun n_ a_ w_=>∃ (k:Nat),n_ = 0 - k ∧ k ≤ 0 ∧ F9 aA 120 [aP,aQ] [] [aa,di,dj,(92,.v (.int .i64 ((k:Nat):Int)))] a_ w_) (0) ⟨0,by omega,by omega,ia.pk,aA,Fr.refl _ _ _⟩ ?_)
  rintro m8 m9 nf ⟨k,kI,kJ,ib,cu,kK⟩
  refine B7 [aa,di,dj,(92,.v (.int .i64 ((k:Nat):Int))),(93,.v (.bool (decide (((k:Nat):Int) < 0))))] cu ib fun ng ek=>?_
  refine wp_seq (E6 ek (b:=decide (((k:Nat):Int) < 0)) kz (decide_eq_false (by omega)) ?_)
  refine wp_exit (E7 (E7 (G9 (A4 (B7 [(10,.v (.bool true))] cu ek fun nh ic=>?_)))))
  refine wp_ret (C8 ic cu.cells (v:=.bool true) kz ?_)
  exact ⟨rfl,cu.step⟩
 refine wp_skip (A4 (wp_seq (B7 [aa,(14,.v (.slice aD ((C4 l u5).length) aE)),(89,.v (.bool (((bQ.length:Nat):Int) != (((C4 l u5).length:Nat):Int))))] aA df fun ni dl=>?_)))
 refine D4 dl (b:=((bQ.length:Nat):Int) != (((C4 l u5).length:Nat):Int)) kz (fun dp=>?_) (fun dp=>?_)
 ·
  have kL:((bQ.length:Nat):Int) ≠ (((C4 l u5).length:Nat):Int):=by simpa using dp
  refine B7 [bw] aA dl fun nj ig=>?_
  refine wp_ret (D6 (C8 ig aA.cells (v:=.bool false) kz ?_))
  first
   | (exfalso; omega)
   | exact (DE hgu ‹_› ‹_›).elim
   | exact (DF hgu ‹_› ‹_›).elim
   | exact (DG hgu ‹_› ‹_› ‹_› ‹_›).elim
   | exact (DH hgu ‹_› ‹_› ‹_› ‹_›).elim
   | (exfalso; simp_all; done)
 have kM:((bQ.length:Nat):Int) = (((C4 l u5).length:Nat):Int):=by simpa using dp
 refine wp_skip (A4 (wp_seq (B7 [aa,(90,.v (.slice aD ((C4 l u5).length) aE)),(91,.v (.int .i64 (((C4 l u5).length:Nat):Int))),(92,.v (.int .i64 0))] aA dl fun nk ii=>?_)))
 refine wp_block ?_
 obtain ⟨kN,ij,jH⟩:=gY.ex
 have jI:=ij.small
 refine wp_loop_ghost (fun n_ a_ w_=>∃ (k:Nat),n_ = (C4 l u5).length - k ∧ k ≤ (C4 l u5).length ∧ F9 aA 120 [aP,aQ] [] [aa,(90,.v (.slice aD ((C4 l u5).length) aE)),(91,.v (.int .i64 (((C4 l u5).length:Nat):Int))),(92,.v (.int .i64 ((k:Nat):Int)))] a_ w_) ((C4 l u5).length) ⟨0,by omega,by omega,ii.pk,aA,Fr.refl _ _ _⟩ ?_
 rintro nl nm np ⟨k,kO,kP,ik,bo,bf⟩
 let aH:Nat × SV:=(92,.v (.int .i64 ((k:Nat):Int)))
 refine B7 [aa,(90,.v (.slice aD ((C4 l u5).length) aE)),(91,.v (.int .i64 (((C4 l u5).length:Nat):Int))),aH,(93,.v (.bool (decide (((k:Nat):Int) < (((C4 l u5).length:Nat):Int)))))] bo ik fun nr dq=>?_
 refine wp_seq (D4 dq (b:=decide (((k:Nat):Int) < (((C4 l u5).length:Nat):Int))) kz (fun dr=>?_) (fun dr=>?_))
 ·
  have kQ:=of_decide_eq_true dr
  refine wp_skip (A4 (wp_seq (wp_block (C0 [0,1,2,3,4,5] kz ?_))))
  refine B1 [0] [1,2,3,4,5] [aa,(90,.v (.slice aD ((C4 l u5).length) aE)),(91,.v (.int .i64 (((C4 l u5).length:Nat):Int))),aH,(94,.v (.int .i64 ((k:Nat):Int)))] bo dq fun ns il=>?_
  obtain ⟨jJ,jK,im,kR,dt⟩:=Slots.get ij (i:=k) (by first | omega | (have h_:=W0 hgu ‹_›; omega))
  obtain ⟨⟨bg,bh⟩,io⟩:∃ x,(C4 l u5)[k]? = some x:=⟨_,List.getElem?_eq_getElem (by omega)⟩
  obtain ⟨⟨dw,dx,ff,em⟩,nt,nu⟩:=jH k bg bh io
  rw [ff] at dt
  refine B2 (G6 il (t:=24) (A:=aD) (m:=((C4 l u5).length)) (q:=((k:Nat):Int)) (d:=95) kz (e:=66) (size:=2) (bytes:=32) kz im rfl (by first | omega | (have h_:=W0 hgu ‹_›; omega)) fun nv ip=>?_)
  let bI:Value:=.slice dw bh.length dx
  refine B2 (K3 ip (t:=66) (b:=jJ) (o:=jK + k * 2) (d:=96) kz (cs:=[.int .u32 bg,bI]) (v:=.agg #[.int .u32 bg,bI]) kz (AtF.move dt bf.step immM bf.to').at_ fun nw iq=>?_)
  refine B2 (H4 bo iq (d:=16) (cs:=[.int .u32 0,aC]) kz fun nx ny nz kS kT bJ eo ir=>?_)
  let bp:Nat × SV:=(15,.v (.int .i64 ((k:Nat):Int)))
  let bq:Nat × SV:=(16,.p 2 0)
  refine B1 [4] [5] [aa,bp,bq,(90,.v (.slice aD ((C4 l u5).length) aE)),(91,.v (.int .i64 (((C4 l u5).length:Nat):Int))),aH,(96,.v (.agg #[.int .u32 bg,bI]))] eo ir fun nA iu=>?_
  refine B2 (D5 eo iu (oi:=2) (cs:=[.int .u32 bg,bI]) kz fun nB bK iv iw=>?_)
  refine B5 (A4 ?_)
  refine G0 22 kz iv fun nC bL bt aI=>?_
  refine C7 [0,1,2,6,7] [aa,bp,bq,(90,.v (.slice aD ((C4 l u5).length) aE)),(91,.v (.int .i64 (((C4 l u5).length:Nat):Int))),aH,(98,.v (.slice fk bQ.length iV)),(99,.v (.int .i64 ((k:Nat):Int))),(104,.v (.int .u32 bg))] 17 (A5 (B6 (A5 (A5 (B6 (A5 B8)))))) (fun _ h=>h.cells) aI iw fun nD ix=>?_
  obtain ⟨dy,dA,ep,kU,bT⟩:=Slots.get jY (i:=k) (by first | omega | (have h_:=W0 hgu ‹_›; omega))
  obtain ⟨⟨bU,bV⟩,iy⟩:∃ x,bQ[k]? = some x:=⟨_,List.getElem?_eq_getElem (by omega)⟩
  obtain ⟨⟨fg,fh,fi,iz⟩,nE,nF⟩:=lb k bU bV iy
  rw [fi] at bT
  refine F6 ix (i:=3) (t:=24) (A:=fk) (m:=bQ.length) (q:=((k:Nat):Int)) (d:=100) kz (e:=66) (size:=2) (bytes:=32) kz ep rfl (by first | omega | (have h_:=W0 hgu ‹_›; omega)) kz kz (A5 (B6 (A5 (A5 (B6 (A5 B8)))))) aI fun nG iA=>?_
  refine C7 [4] [aa,bp,bq,(90,.v (.slice aD ((C4 l u5).length) aE)),(91,.v (.int .i64 (((C4 l u5).length:Nat):Int))),aH,(101,.v (.pointer (some ⟨dy,dA + k * 2,none⟩))),(104,.v (.int .u32 bg))] 15 (A5 (B6 (A5 (A5 (B6 (A5 B8)))))) (fun _ h=>h.cells) aI iA fun nH iB=>?_
  refine J4 iB (i:=5) (t:=64) (b:=dy) (o:=dA + k * 2) (d:=102) kz (cs:=[.int .u32 bU]) (v:=.int .u32 bU) kz (fun w' h'=>(At.drop (AtF.move bT (TT.step0 bt h') A7 E8).at_ 0 1)) kz kz (A5 (B6 (A5 (A5 (B6 (A5 B8)))))) aI fun nI iC=>?_
  refine C7 [8,9] [aa,bp,bq,(90,.v (.slice aD ((C4 l u5).length) aE)),(91,.v (.int .i64 (((C4 l u5).length:Nat):Int))),aH,(106,.v (.bool (bU != bg)))] 12 (A5 (B6 (A5 (A5 (B6 (A5 B8)))))) (fun _ h=>h.cells) aI iC fun nJ eu=>?_
  refine (Bool.eq_false_or_eq_true (bU != bg)).elim (fun bM=>?_) (fun bM=>?_)
  ·
   have kV:bU ≠ bg:=by simpa using bM
   have iD:=eu
   rw [bM] at iD
   refine C7 [10,11,12,13,14,15,16,17,18,19,20,21] [aa,(90,.v (.slice aD ((C4 l u5).length) aE)),(91,.v (.int .i64 (((C4 l u5).length:Nat):Int))),aH,(118,.v (.bool true))] 0 (A5 (B6 (A5 (A5 (B6 (A5 B8)))))) (fun _ h=>h.cells) aI iD fun nK ev=>?_
   refine E5 kz ?_ _
   refine A4 (I7 ev (b:=true) kz rfl ?_)
   refine B7 [bw] bt ev fun nL iE=>?_
   refine wp_ret (F3 (D6 (D6 (F3 (D6 (C8 iE bt.cells (v:=.bool false) kz ?_))))))
   first
    | (exfalso; omega)
    | exact (DE hgu ‹_› ‹_›).elim
    | exact (DF hgu ‹_› ‹_›).elim
    | exact (DG hgu ‹_› ‹_› ‹_› ‹_›).elim
    | exact (DH hgu ‹_› ‹_› ‹_› ‹_›).elim
    | (exfalso; simp_all; done)
  have kW:bU = bg:=by simpa using bM
  let du:Nat × SV:=(106,.v (.bool false))
  have iF:=eu
  rw [bM] at iF
  refine C7 [10,11,12,16,17] [aa,(90,.v (.slice aD ((C4 l u5).length) aE)),(91,.v (.int .i64 (((C4 l u5).length:Nat):Int))),aH,du,(108,.v (.slice fk bQ.length iV)),(109,.v (.int .i64 ((k:Nat):Int))),(114,.v (.slice dw bh.length dx))] 7 (A5 (B6 (A5 (A5 (B6 (A5 B8)))))) (fun _ h=>h.cells) aI iF fun nM iG=>?_
  refine F6 iG (i:=13) (t:=24) (A:=fk) (m:=bQ.length) (q:=((k:Nat):Int)) (d:=110) kz (e:=66) (size:=2) (bytes:=32) kz ep rfl (by first | omega | (have h_:=W0 hgu ‹_›; omega)) kz kz (A5 (B6 (A5 (A5 (B6 (A5 B8)))))) aI fun nN iH=>?_
  refine C7 [14] [aa,(90,.v (.slice aD ((C4 l u5).length) aE)),(91,.v (.int .i64 (((C4 l u5).length:Nat):Int))),aH,du,(111,.v (.pointer (some ⟨dy,dA + k * 2 + 1,none⟩))),(114,.v (.slice dw bh.length dx))] 5 (A5 (B6 (A5 (A5 (B6 (A5 B8)))))) (fun _ h=>h.cells) aI iH fun nO iI=>?_
  refine J4 iI (i:=15) (t:=22) (b:=dy) (o:=dA + k * 2 + 1) (d:=112) kz (cs:=[.slice fg bV.length fh]) (v:=.slice fg bV.length fh) kz (fun w' h'=>(At.drop (AtF.move bT (TT.step0 bt h') A7 E8).at_ 1 1)) kz kz (A5 (B6 (A5 (A5 (B6 (A5 B8)))))) aI fun nP iJ=>?_
  have jL:=J7 bh
  refine C2 (i:=18) kz (D3 iJ (f:=30) (vs:=[bI]) (d:=115) kz Tryz.call30 (V2 _ _ bh (em.move (((bf.trans bJ).trans bK).trans bL).step immM (((bf.trans bJ).trans bK).trans bL).to').le _) ?_)
  rintro e_ nQ ⟨rfl,ew⟩
  refine ⟨_,rfl,fun nR iK=>?_⟩
  have bN:=bt.next_nil ew
  have bO:=bt.frN ew
  have iL:=TT.ofW bO bN
  refine ⟨fun _=>iL,?_⟩
  refine C2 (i:=19) kz (D3 iK (f:=29) (vs:=[.slice fg bV.length fh,.slice dw ((C5 bh).length) dx]) (d:=116) kz Tryz.call29 (Q9 _ _ _ _ bV (C5 bh) _ _ ((iz.move bN.step A7 bN.imm).move (Step.refl _ C1) A7 I2) (((em.take 32767).move ((((bf.trans bJ).trans bK).trans bL).trans bO).step immM ((((bf.trans bJ).trans bK).trans bL).trans bO).to').move (Step.refl _ C1) A7 I2)) ?_)
  rintro e_ nS ⟨rfl,ey⟩
  refine ⟨_,rfl,fun nT iM=>?_⟩
  have bP:=bN.next_nil ey
  have ez:=bN.frN ey
  have eB:=TT.ofW (bO.trans ez) bP
  refine ⟨fun _=>eB,?_⟩
  refine C7 [20,21] [aa,(90,.v (.slice aD ((C4 l u5).length) aE)),(91,.v (.int .i64 (((C4 l u5).length:Nat):Int))),aH,(118,.v (.bool (!(decide (bV = (C5 bh))))))] 0 (A5 (B6 (A5 (A5 (B6 (A5 B8)))))) (fun _ h=>h.cells) eB iM fun nU dv=>?_
  refine E5 kz ?_ _
  refine A4 (D4 dv (b:=!(decide (bV = (C5 bh)))) kz (fun iN=>?_) (fun iN=>?_))
  ·
   refine B7 [bw] bP dv fun nV iO=>?_
   refine wp_ret (F3 (D6 (D6 (F3 (D6 (C8 iO bP.cells (v:=.bool false) kz ?_))))))
   first
    | (exfalso; omega)
    | exact (DE hgu ‹_› ‹_›).elim
    | exact (DF hgu ‹_› ‹_›).elim
    | exact (DG hgu ‹_› ‹_› ‹_› ‹_›).elim
    | exact (DH hgu ‹_› ‹_› ‹_› ‹_›).elim
    | (exfalso; simp_all; done)
  refine wp_skip (F2 (A4 (D7 [0,1] kz ?_)))
  refine B1 [0,1] [] [aa,(90,.v (.slice aD ((C4 l u5).length) aE)),(91,.v (.int .i64 (((C4 l u5).length:Nat):Int))),(92,.v (.int .i64 (IntKind.i64.wrap (((k:Nat):Int) + 1))))] bP dv fun nW iP=>?_
  refine B5 (A4 ?_)
  obtain ⟨eC,iQ,iR⟩:=bP.cutB iP 2 [aP,aQ] [aa,(90,.v (.slice aD ((C4 l u5).length) aE)),(91,.v (.int .i64 (((C4 l u5).length:Nat):Int))),(92,.v (.int .i64 (IntKind.i64.wrap (((k:Nat):Int) + 1))))]
  have iS:IntKind.i64.wrap (((k:Nat):Int) + 1) = ((k + 1:Nat):Int):=G8 (by omega)
  rw [iS] at eC
  exact ⟨(C4 l u5).length - (k + 1),by omega,k + 1,rfl,by omega,eC.pk,iQ,((((((bf.trans bJ).trans bK).trans bL).trans bO).trans ez).trans iR)⟩
 have kX:=of_decide_eq_false dr
 refine wp_exit (E7 (E7 (G9 (A4 (B7 [(10,.v (.bool true))] bo dq fun nX iT=>?_)))))
 refine wp_ret (C8 iT bo.cells (v:=.bool true) kz ?_)
 exact ⟨rfl,bo.step⟩
theorem Kf (v:Int) (flex:Bool):∀ d,W1 v flex (Bo v flex d)
 | 0=>Ke (fun _ _ _ _ _ _ _ _ _ _ _ _ _ h=>h.elim) (fun _ _ _ _ _ _ _ _ _ h=>h.elim)
 | d + 1=>Ke (Kf v flex d) (Kd d)
theorem Pg (w:World):Calls Tryz.prog 5 #[] w (L5 w (.int .i64 18)):=by
 refine enter (n:=4) Tryz.func5 rfl Tryz.ntmps5 kz fun a hE=>?_
 have hW:=WOk.start w C1
 refine B7 [] hW hE fun a1 hE2=>?_
 refine C0 [0,1,2,3] kz ?_
 refine B2 (S3 hE2 (f:=14) (vs:=[]) (d:=1) (n':=3) kz Tryz.call14 Tryz.func14 rfl Tryz.ntmps14 kz fun a3 hE4=>?_)
 refine B7 [] hW hE4 fun a5 hE6=>?_
 refine C0 [0] kz ?_
 let af:Value:=.int .i16 0
 let ag:Value:=.pointer none
 let aa:Value:=.int .i32 0
 let ab:Value:=.map none
 let ah:Value:=.int .i8 0
 let ac:Value:=.slice none 0 0
 let ai:Value:=.string ByteArray.empty
 refine B2 (H4 hW hE6 (d:=1) (cs:=[af,ag,aa,aa,.int .i64 0,ab,aa,aa,aa,ah,aa,aa,ac,ac,ai,ab]) kz fun b7 a8 w9 bg bh bj ar ay=>?_)
 refine B5 (A4 ?_)
 refine C0 [0] kz ?_
 refine B2 (S3 ay (f:=32) (vs:=[.pointer (some ⟨b7,0,none⟩)]) (d:=2) (n':=25) kz Tryz.call32 Tryz.func32 rfl Tryz.ntmps32 kz fun bu az=>?_)
 have aA:=az.recast 0 (.v (.pointer (some ⟨b7,0,none⟩))) (.p 0 0) rfl rfl (Nat.le_of_ble_eq_true (n:=1) rfl)
 refine C0 [0,1,2,3] kz ?_
 let aj:Nat × SV:=(0,.p 0 0)
 refine B1 [0,1,2] [3] [aj,(5,.p 0 1)] ar aA fun bw aB=>?_
 refine B2 (D5 ar aB (oi:=0) (cs:=[af,ag,aa,aa,.int .i64 0,ab,aa,aa,aa,ah,aa,aa,ac,ac,ai,ab]) kz fun bx bk au aC=>?_)
 refine B5 (A4 ?_)
 refine C0 [0,1,2,3] kz ?_
 refine B1 [0,1,2] [3] [aj,(8,.p 0 2)] au aC fun bz aD=>?_
 let ae:Value:=.int .i32 (-1)
 refine B2 (D5 au aD (oi:=0) (cs:=[af,ag,ae,aa,.int .i64 0,ab,aa,aa,aa,ah,aa,aa,ac,ac,ai,ab]) kz fun bA bn ap aE=>?_)
 refine B5 (A4 ?_)
 refine wp_seq (B7 [aj,(2,.p 0 3)] ap aE fun bB aF=>?_)
 refine B7 [aj,(2,.p 0 3)] ap aF fun bC aG=>?_
 refine C0 [0,1,2,3] kz ?_
 refine B1 [0,1,2] [3] [aj,(2,.p 0 3),(15,.p 0 3)] ap aG fun bD aH=>?_
 refine B2 (D5 ap aH (oi:=0) (cs:=[af,ag,ae,ae,.int .i64 0,ab,aa,aa,aa,ah,aa,aa,ac,ac,ai,ab]) kz fun bE bo av aI=>?_)
 refine B5 (A4 ?_)
 refine D7 [0,1,2,3] kz ?_
 refine B1 [0,1,2] [3] [aj,(18,.p 0 4)] av aI fun bF aJ=>?_
 let al:Value:=.int .i64 (-1)
 refine B2 (D5 av aJ (oi:=0) (cs:=[af,ag,ae,ae,al,ab,aa,aa,aa,ah,aa,aa,ac,ac,ai,ab]) kz fun bG bp aw aK=>?_)
 refine B5 (A4 ?_)
 refine C0 [0,1,2,3] kz ?_
 refine B1 [0,1,2] [3] [aj,(21,.p 0 8)] aw aK fun bH aL=>?_
 let am:Value:=.int .i32 2147483647
 refine B2 (D5 aw aL (oi:=0) (cs:=[af,ag,ae,ae,al,ab,aa,aa,am,ah,aa,aa,ac,ac,ai,ab]) kz fun bI bq ax aM=>?_)
 refine B5 (A4 ?_)
 refine D7 [0,1,2,3] kz ?_
 refine B1 [0,1,2] [3] [(24,.p 0 11)] ax aM fun bJ aN=>?_
 refine B2 (D5 ax aN (oi:=0) (cs:=[af,ag,ae,ae,al,ab,aa,aa,am,ah,aa,ae,ac,ac,ai,ab]) kz fun bK bt ak aO=>?_)
 refine B5 (R6 aO ak.cells (v:=.tuple #[]) kz ?_)
 refine ⟨_,rfl,fun bL aP=>?_⟩
 let ao:Ob:=⟨b7,0,[af,ag,ae,ae,al,ab,aa,aa,am,ah,aa,ae,ac,ac,ai,ab],true⟩
 have aQ:EnvOk 3 [ao] [(2,.v (.tuple #[])),(1,.p 0 0)] _:=aP.places (⟨rfl,rfl,trivial⟩)
 refine B5 (A4 ?_)
 refine B7 [aj] ak aQ fun bM aR=>?_
 refine wp_ret (C8 aR ak.cells (v:=.pointer (some ⟨b7,0,none⟩)) kz ?_)
 refine ⟨_,rfl,fun bN aS=>?_⟩
 have aT:EnvOk 4 [ao] [(1,.v (.pointer (some ⟨b7,0,none⟩)))] _:=aS.places (trivial)
 have aU:=aT.recast 1 (.v (.pointer (some ⟨b7,0,none⟩))) (.p 0 0) rfl rfl (Nat.le_of_ble_eq_true (n:=1) rfl)
 have aV:=aU.pick (ks:=[1]) (env':=[(1,.p 0 0)]) kz
 refine B2 (S3 aV (f:=15) (vs:=[.pointer (some ⟨b7,0,none⟩)]) (d:=2) (n':=3) kz Tryz.call15 Tryz.func15 rfl Tryz.ntmps15 kz fun bO aW=>?_)
 have aX:=aW.recast 0 (.v (.pointer (some ⟨b7,0,none⟩))) (.p 0 0) rfl rfl (Nat.le_of_ble_eq_true (n:=1) rfl)
 refine B7 [] ak aX fun bP aY=>?_
 refine B7 [(2,.v (.int .i16 18))] ak aY fun bQ aZ=>?_
 refine wp_ret (C8 aZ ak.cells (v:=.int .i16 18) kz ?_)
 refine ⟨_,rfl,fun bR ba=>?_⟩
 have bd:EnvOk 4 [ao] [(2,.v (.int .i16 18)),(1,.p 0 0)] _:=ba.places (⟨rfl,rfl,trivial⟩)
 refine B1 [2,3] [] [(0,.v (.int .i64 18))] ak bd fun bS bf=>?_
 refine B5 (A4 ?_)
 refine wp_ret (C8 bf ak.cells (v:=.int .i64 18) kz ?_)
 exact ⟨rfl,ak.step⟩
theorem Ph:depths sFetchRequestF ≤ 8:=by simp [sFetchRequestF,Fld.depth.depths,Fld.depth]
theorem Pi:plains sFetchRequestF:=by simp [sFetchRequestF,Fld.plain.plains,Fld.plain]
theorem Pj (A:Option Addr) (c:Nat) (v:Int) (w:World):Calls Tryz.prog 11 #[.agg #[.slice A sFetchRequestF.length c,.int .i64 H6],.int .i64 v] w (L5 w (.bool (decide (v ≥ H6)))):=by
 refine enter (n:=14) Tryz.func11 rfl Tryz.ntmps11 kz fun a hE=>?_
 have hW:=WOk.start w C1
 refine C0 [0,1] kz ?_
 refine B2 (K9 hW hE (d:=2) (cs:=[.slice A sFetchRequestF.length c,.int .i64 H6]) kz fun b1 a2 w3 hb4 hz5 hF6 hW7 hE8=>?_)
 refine B1 [1] [] [(1,.v (.int .i64 v)),(2,.p 0 0)] hW7 hE8 fun a9 aa=>?_
 refine B5 (A4 ?_)
 refine C0 [0,1,2,3,4,5,6,7,8,9] kz ?_
 refine B1 [0,1,2,3] [4,5,6,7,8,9] [(1,.v (.int .i64 v)),(2,.p 0 0),(8,.v (.bool (decide (H6 ≥ 0))))] hW7 aa fun ag ab=>?_
 have ac:(decide (H6 ≥ 0)) = true:=by decide
 have ae:=ab
 rw [ac] at ae
 refine B1 [4,5,6,7,8,9] [] [(4,.v (.bool (decide (v ≥ H6))))] hW7 ae fun ah af=>?_
 refine B5 (A4 ?_)
 refine wp_ret (C8 af hW7.cells (v:=.bool (decide (v ≥ H6))) kz ?_)
 exact ⟨rfl,hW7.step⟩
set_option maxHeartbeats 4000000 in
theorem Pk (x:Int) (hx:0 ≤ x) (hx':x < 256) (ct:List Value) (t:Tree) (w:World) (F:Nat → Nat → Prop) (ht:TreeR w F ct t) (hroom1:(P6 8 sFetchRequestF H6 (Int.tmod x (18 + 1)) t).length + 16 ≤ 1099511627776) (hcan:BK (D2 (Int.tmod x (18 + 1)) 8 sFetchRequestF t)) (hkey:Tree.ranged (D2 (Int.tmod x (18 + 1)) 8 sFetchRequestF t)) (hpure:I6 (IntKind.i16.wrap (Int.tmod x (18 + 1))) (D2 (Int.tmod x (18 + 1)) 8 sFetchRequestF t) = P6 8 sFetchRequestF H6 (Int.tmod x (18 + 1)) t) (hto:∀ D,BV (IntKind.i16.wrap (Int.tmod x (18 + 1))) D (D2 (Int.tmod x (18 + 1)) 8 sFetchRequestF t) → Bo (Int.tmod x (18 + 1)) (decide ((Int.tmod x (18 + 1)) ≥ H6)) 8 sFetchRequestF t (BZ D)) :
  Calls Tryz.prog 3 #[.int .u8 x,.agg ct.toArray] w (L5 w (.bool true)):=by
 obtain ⟨n1,s2,b3,l4,u5,A6,c7,A8,c9,bW,bX,dD,rfl,rfl,dE,dF,eh,ei⟩:=ht.open_
 have df:=dE.small
 have dg:=dF.small
 refine enter (n:=42) Tryz.func3 rfl Tryz.ntmps3 kz fun a hE=>?_
 have hW:=WOk.start w C1
 refine C0 [0,1] kz ?_
 let ac:Value:=.int .i64 n1
 let ae:Value:=.slice A6 s2.length c7
 let af:Value:=.bool b3
 let ag:Value:=.slice A8 l4.length c9
 let ah:Value:=.slice bW u5.length bX
 refine B2 (K9 hW hE (d:=3) (cs:=[ac,ae,af,ag,ah]) kz fun dG ej ek dH dI dJ aH bY=>?_)
 let am:Nat × SV:=(0,.v (.int .u8 x))
 let aa:Nat × SV:=(3,.p 0 0)
 refine B1 [1] [] [am,aa] aH bY fun em bZ=>?_
 refine B5 (A4 ?_)
 refine wp_seq (C0 [0,1,2] kz ?_)
 let dh:Value:=(.agg #[.int .i64 n1,.slice A6 s2.length c7,.bool b3,.slice A8 l4.length c9,.slice bW u5.length bX])
 refine B1 [0] [1,2] [am,aa,(10,.v (.agg #[ac,ae,af,ag,ah]))] aH bZ fun eo b8=>?_
 let di:Value:=.agg #[.int .i64 n1,.slice A6 s2.length c7,.bool b3,.slice A8 l4.length c9,.slice bW u5.length bX]
 refine B2 (D3 b8 (f:=4) (vs:=[.agg #[ac,ae,af,ag,ah]]) (d:=11) kz Tryz.call4 (Ns _ _ _ _ (ht.move aH.step A7 aH.imm)) ?_)
 rintro e_ ep ⟨dj,rfl,bg⟩
 refine ⟨_,rfl,fun eu cd=>?_⟩
 have aI:=aH.next_nil bg
 have dK:=aH.frN bg
 refine B1 [2] [] [am,aa,(12,.v (.bool (!dj)))] aI cd fun ev ba=>?_
 refine B5 (A4 ?_)
 refine D4 ba (b:=!dj) kz (fun ce=>?_) (fun ce=>?_)
 ·
  refine B7 [(4,.v (.bool true))] aI ba fun ew cm=>?_
  refine wp_ret (D6 (C8 cm aI.cells (v:=.bool true) kz ?_))
  exact ⟨rfl,aI.step⟩
 refine wp_skip (A4 (C0 [0,1] kz ?_))
 refine B2 (D3 ba (f:=5) (vs:=[]) (d:=13) kz Tryz.call5 (Pg _) ?_)
 rintro e_ dL ⟨rfl,bh⟩
 refine ⟨_,rfl,fun ey cq=>?_⟩
 have aJ:=aI.next_nil bh
 have dM:=aI.frN bh
 refine B1 [1] [] [am,aa,(5,.v (.int .i64 18))] aJ cq fun ez cr=>?_
 refine B5 (A4 ?_)
 refine wp_seq (B7 [am,aa,(5,.v (.int .i64 18)),(15,.v (.bool false))] aJ cr fun eB bj=>?_)
 refine E6 bj (b:=false) kz rfl ?_
 refine wp_skip (A4 (C0 [0,1,2,3,4,5,6] kz ?_))
 refine B2 (D3 bj (f:=6) (vs:=[]) (d:=16) kz Tryz.call6 (Mk _ (E9 F w dL [⟨dG,0,[ac,ae,af,ag,ah],true⟩] [])) ?_)
 rintro e_ eC ⟨aS,aT,rfl,cu,bd⟩
 obtain ⟨bk,dl,dp⟩:=cu.move (Step.refl _ C1) A7 (aJ.laid (G:=F) bd)
 refine ⟨_,rfl,fun eD cw=>?_⟩
 have bf:=aJ.next_nil bd
 have dN:=aJ.frN bd
 refine B1 [1,2] [3,4,5,6] [aa,(16,.v (.agg #[.slice aS sFetchRequestF.length aT,.int .i64 H6])),(17,.v (.int .u8 x)),(18,.v (.int .i64 18))] bf cw fun eE cz=>?_
 refine B2 (D3 cz (f:=7) (vs:=[.int .u8 x,.int .i64 18]) (d:=19) kz Tryz.call7 (Nt x 18 hx hx' (by decide) (by decide) _) ?_)
 rintro e_ eF ⟨rfl,bn⟩
 refine ⟨_,rfl,fun eG cA=>?_⟩
 have cB:=bf.next_nil bn
 have ao:=bf.frN bn
 let av:Value:=.slice none 0 0
 refine B2 (H4 cB cA (d:=6) (cs:=[av,.int .i64 0]) kz fun eH eI eJ dO dP ap cC cD=>?_)
 refine B2 (D5 cC cD (oi:=1) (cs:=[.slice aS sFetchRequestF.length aT,.int .i64 H6]) kz fun eK ar aK cE=>?_)
 let aw:Nat × SV:=(7,.v (.int .i64 (Int.tmod x (18 + 1))))
 refine B1 [6] [] [aa,(6,.p 1 0),aw] aK cE fun eL cG=>?_
 refine B5 (A4 ?_)
 refine C0 [0,1,2,3,4,5,6,7,8,9,10,11] kz ?_
 refine B1 [0,1,2,3] [4,5,6,7,8,9,10,11] [aa,(6,.p 1 0),aw,(21,.v (.int .i64 (Int.tmod x (18 + 1)))),(22,.v (.agg #[.slice aS sFetchRequestF.length aT,.int .i64 H6])),(23,.v (.int .i64 (Int.tmod x (18 + 1)))),(24,.v (.agg #[ac,ae,af,ag,ah]))] aK cG fun eM cH=>?_
 let ax:Value:=.int .i64 (Int.tmod x (18 + 1))
 refine B2 (D3 cH (f:=9) (vs:=[.agg #[.slice aS sFetchRequestF.length aT,.int .i64 H6],ax,.agg #[ac,ae,af,ag,ah]]) (d:=25) kz Tryz.call9 (Mj _ _ sFetchRequestF H6 (Int.tmod x (18 + 1)) _ (Tree.mk n1 s2 b3 l4 u5) _ _ ⟨bk,(dl.move ((ao.trans ap).trans ar).step immM ((ao.trans ap).trans ar).to'),(fun i_ x_ h_=>((dp i_ x_ h_).move ((ao.trans ap).trans ar).step immM ((ao.trans ap).trans ar).to'))⟩ Ph (ht.move aK.step A7 aK.imm) (Nat.le_trans (Nat.le_add_right _ _) hroom1)) ?_)
 rintro e_ eN ⟨dq,dr,rfl,cI,cJ⟩
 refine ⟨_,rfl,fun eO cK=>?_⟩
 obtain ⟨ay,az⟩:=aK.frFresh cJ (B4 dq dr 5 (P6 8 sFetchRequestF H6 (Int.tmod x (18 + 1)) (Tree.mk n1 s2 b3 l4 u5))) (Nat.le_refl _) cI
 refine B2 (D3 cK (f:=8) (vs:=[ax,.slice dq ((P6 8 sFetchRequestF H6 (Int.tmod x (18 + 1)) (Tree.mk n1 s2 b3 l4 u5)).length) dr]) (d:=26) kz Tryz.call8 (Pd (Int.tmod x (18 + 1)) _ (P6 8 sFetchRequestF H6 (Int.tmod x (18 + 1)) (Tree.mk n1 s2 b3 l4 u5)) hpure (R7 (ay.own 0 _ rfl) (by first | omega | (rw [P9]; decide) | (simp only [be_length]; exact Nat.le_trans (P7 _) (by decide)) | (have:=hroom; omega) | (have:=hmade; omega) | (simp only [List.length_append,List.length_nil]; omega)) (F:=fun _ _=>True) (fun _ _ _=>trivial)) hcan hkey (by first | omega | (have:=hroom1; omega))) ?_)
 rintro e_ dQ ⟨bo,dt,rfl,bp,bq,aL⟩
 have aM:=bp.move (Step.refl _ C1) A7 (fun b_ o_ h_ hb_=>ay.laid (G:=F) aL b_ o_ (.inr (h_.resolve_left id)) hb_)
 obtain ⟨bt,bu,aN,bw,bx,bz,bA,bB,bC,bD,bE,du,dv,aO,cL,cM,dR,dS⟩:=aM.open_
 rw [aO] at aM
 have cN:=cL.small
 have cO:=cM.small
 rw [aO]
 refine ⟨_,rfl,fun dT bF=>?_⟩
 have aU:=ay.next_nil aL
 have aA:=ay.frN aL
 let aB:Value:=.int .i64 bt
 let aC:Value:=.slice bz bu.length bA
 let aD:Value:=.slice bB bw.length bC
 let aE:Value:=.slice bD bx.length bE
 let dw:Value:=(.agg #[.int .i64 bt,.slice bz bu.length bA,.bool aN,.slice bB bw.length bC,.slice bD bx.length bE])
 refine B1 [6,7,8] [9,10,11] [aa,(6,.p 1 0),aw,(27,.v (.agg #[aB,aC,.bool aN,aD,aE])),(28,.v (.bool true))] aU bF fun dU bG=>?_
 refine B2 (H4 aU bG (d:=8) (cs:=[.int .i64 0,av,.bool false,av,av]) kz fun dV dW dX dx dy ai bH bI=>?_)
 refine B2 (D5 bH bI (oi:=2) (cs:=[aB,aC,.bool aN,aD,aE]) kz fun dY aj aV bJ=>?_)
 refine B1 [11] [] [aa,(6,.p 1 0),aw,(8,.p 2 0),(9,.v (.bool true))] aV bJ fun dZ bK=>?_
 refine B5 (A4 ?_)
 refine G0 13 kz aV fun d4 ak aW bL=>?_
 refine C7 [0,1,2,3,4,5,6,8,9] [(30,.v (.bool true)),(32,.v (.slice aS sFetchRequestF.length aT)),(33,.v (.int .i64 (Int.tmod x (18 + 1)))),(34,.v (.agg #[.slice aS sFetchRequestF.length aT,.int .i64 H6])),(35,.v (.int .i64 (Int.tmod x (18 + 1)))),(37,.v (.agg #[ac,ae,af,ag,ah])),(38,.v (.agg #[aB,aC,.bool aN,aD,aE]))] 5 (A5 B8) (fun _ h=>h.cells) bL bK fun d5 bM=>?_
 refine C2 (i:=7) kz (D3 bM (f:=11) (vs:=[.agg #[.slice aS sFetchRequestF.length aT,.int .i64 H6],ax]) (d:=36) kz Tryz.call11 (Pj _ _ _ _) ?_)
 rintro e_ d6 ⟨rfl,aX⟩
 refine ⟨_,rfl,fun d7 bN=>?_⟩
 have aF:=aW.next_nil aX
 have ab:=aW.frN aX
 have bO:=TT.ofW ab aF
 refine ⟨fun _=>bO,?_⟩
 refine C2 (i:=10) kz (D3 bN (f:=12) (vs:=[.agg #[aB,aC,.bool aN,aD,aE]]) (d:=39) kz Tryz.call12 (DA _ _ _ _ _ (aM.move (((ai.trans aj).trans ak).trans ab).step immM (((ai.trans aj).trans ak).trans ab).to') (Nat.le_refl _)) ?_)
 rintro e_ d8 ⟨dA,rfl,bP,aP⟩
 have aQ:=bP.move (Step.refl _ C1) A7 (aF.laid (G:=F) aP)
 obtain ⟨cP,cQ,cR,cS,cT,cU,cV,cW,cX,cY,cZ,dB,dC,aR,da,db,d9,ea⟩:=aQ.open_
 rw [aR] at aQ
 have dc:=da.small
 have de:=db.small
 rw [aR]
 refine ⟨_,rfl,fun eb bQ=>?_⟩
 have au:=aF.next_nil aP
 have al:=aF.frN aP
 have bR:=TT.ofW (ab.trans al) au
 refine ⟨fun _=>bR,?_⟩
 refine C2 (i:=11) kz (D3 bQ (f:=10) (vs:=[.slice aS sFetchRequestF.length aT,ax,.bool (decide ((Int.tmod x (18 + 1)) ≥ H6)),.agg #[ac,ae,af,ag,ah],.agg #[.int .i64 cP,.slice cU cQ.length cV,.bool cR,.slice cW cS.length cX,.slice cY cT.length cZ]]) (d:=40) kz Tryz.call10 (Kf (Int.tmod x (18 + 1)) (decide ((Int.tmod x (18 + 1)) ≥ H6)) 8 _ _ sFetchRequestF _ (Tree.mk n1 s2 b3 l4 u5) _ (BZ bo) _ _ ⟨bk,(dl.move (((((((((ao.trans ap).trans ar).trans az).trans aA).trans ai).trans aj).trans ak).trans ab).trans al).step immM (((((((((ao.trans ap).trans ar).trans az).trans aA).trans ai).trans aj).trans ak).trans ab).trans al).to'),(fun i_ x_ h_=>((dp i_ x_ h_).move (((((((((ao.trans ap).trans ar).trans az).trans aA).trans ai).trans aj).trans ak).trans ab).trans al).step immM (((((((((ao.trans ap).trans ar).trans az).trans aA).trans ai).trans aj).trans ak).trans ab).trans al).to'))⟩ (ht.move au.step A7 au.imm) aQ Pi (hto bo bq)) ?_)
 rintro e_ ec ⟨rfl,aY⟩
 refine ⟨_,rfl,fun ee bS=>?_⟩
 have aG:=au.next_nil aY
 have bT:=au.frN aY
 have aZ:=TT.ofW ((ab.trans al).trans bT) aG
 refine ⟨fun _=>aZ,?_⟩
 refine C7 [12] [(41,.v (.bool true))] 1 (A5 B8) (fun _ h=>h.cells) aZ bS fun ef bU=>?_
 refine C2 (i:=13) kz (L4 [4] aG.cells bU (env':=[(4,.v (.bool true))]) kz fun eg bV=>?_)
 refine ⟨fun h=>absurd rfl h,?_⟩
 refine E5 kz ?_ _
 refine A4 (wp_ret (C8 bV aG.cells (v:=.bool true) kz ?_))
 exact ⟨rfl,aG.step⟩
theorem Pm (x:Int) (hx:0 ≤ x ∧ x ≤ 255) (ct:List Value) (t:Tree) (w:World) (F:Nat → Nat → Prop) (ht:TreeR w F ct t) (hi:t.i64s) (hsz:t.size ≤ 8388608):Calls Tryz.prog 3 #[.int .u8 x,.agg ct.toArray] w (L5 w (.bool true)):=by
 obtain ⟨g0,g1⟩:=LO (m:=18 + 1) hx.1 hx.2 (by decide) (by decide)
 have hp:I6 (IntKind.i16.wrap (Int.tmod x (18 + 1))) (D2 (Int.tmod x (18 + 1)) 8 sFetchRequestF t) = P6 8 sFetchRequestF H6 (Int.tmod x (18 + 1)) t:=by rw [Iz g0 g1]; exact Mm (Int.tmod x (18 + 1)) g0 g1 t
 have h1:=LU 8 sFetchRequestF H6 (Int.tmod x (18 + 1)) t
 have h2:BG sFetchRequestF ≤ 131000:=by decide +kernel
 have h3:=Nat.mul_le_mul h2 hsz
 exact Pk x hx.1 (by omega) ct t w F ht (by omega) (Ml (Int.tmod x (18 + 1)) t) (Mg _ _ _ _ ht.ranged) hp (fun D h=>by rw [Iz g0 g1] at h; exact Pb (Int.tmod x (18 + 1)) g0 t _ (fun _=>rfl) rfl hi D h)
end Go.Proofs.YtoclgihkbmaolaaGreatDoor.ME