/- Packed. Own work. -/
import Derived.Test.YtipblegipibplaaGreatDoorWqP6
import Derived.Test.YtipblegipibplaaGreatDoorTie
import Derived.Test.YtipblegipibplaaGreatDoorCards
import Derived.LaidMore
import Derived.Carry
import Derived.SevenTiedAt
namespace Go.Proofs.YtipblegipibplaaGreatDoor.ME
open Go
open Go.ChangeShapes Go.WideShapes Go.ChangeAt Go.RowKit
set_option linter.unusedVariables false
set_option linter.unusedSimpArgs false
theorem Pv:ownKnob Tryz.prog.godebug = none:=by kernel_rfl
theorem Pw:laidOutB Tryz.prog = true:=by kernel_rfl
theorem Px:TreeTys Tryz.prog 34 31 32 87 30 2 4 85 5:=⟨kz,kz,kz,kz,kz,kz,kz,kz,kz,kz⟩
theorem Py:RoadTys Tryz.prog 40 22 37 70 35 38 68 21 9 30:=⟨kz,kz,kz,kz,kz,kz,kz,kz,kz,kz⟩
theorem Pz {H:Type} {enc:TypeId × Value → H} {P:Program} {W:World} {base b':Nat} {sp:Nat → Bool} {hd:Bool} {t0 t1 t2 t3:TypeId} {v0 v1 v2 v3:Value} {d0:DataW H} {p0:List MemPlace} (hu:P.underlying t0 = some (.int .u8))
  (hval:∀ (j:Nat) (t:TypeId) (v:Value),#[t0,t1,t2,t3][j]? = some t → #[v0,v1,v2,v3][j]? = some v → Value.okWide P W .any base t v) (h:DataW.Trod enc P W b' sp hd t0 v0 d0 p0):∃ x,v0 = .int .u8 x ∧ d0 = .lit (.int .u8 x) ∧ p0 = [] ∧ (Lit.int .u8 x).wf = true :=
 open_int hu (hval 0 t0 v0 rfl rfl) h
theorem PA {H:Type} {enc:TypeId × Value → H} {P:Program} {W:World} {base b':Nat} {sp:Nat → Bool} {hd:Bool} {t0 t1 t2 t3:TypeId} {v0 v1 v2 v3:Value} {d0:DataW H} {p0:List MemPlace} (hu:P.underlying t1 = some (.int .u8))
  (hval:∀ (j:Nat) (t:TypeId) (v:Value),#[t0,t1,t2,t3][j]? = some t → #[v0,v1,v2,v3][j]? = some v → Value.okWide P W .any base t v) (h:DataW.Trod enc P W b' sp hd t1 v1 d0 p0):∃ x,v1 = .int .u8 x ∧ d0 = .lit (.int .u8 x) ∧ p0 = [] ∧ (Lit.int .u8 x).wf = true :=
 open_int hu (hval 1 t1 v1 rfl rfl) h
theorem PB {H:Type} {enc:TypeId × Value → H} {P:Program} {W:World} {base b':Nat} {sp:Nat → Bool} {hd:Bool} {t0 t1 t2 t3:TypeId} {v0 v1 v2 v3:Value} {d0:DataW H} {p0:List MemPlace} (hu:P.underlying t2 = some (.int .u8))
  (hval:∀ (j:Nat) (t:TypeId) (v:Value),#[t0,t1,t2,t3][j]? = some t → #[v0,v1,v2,v3][j]? = some v → Value.okWide P W .any base t v) (h:DataW.Trod enc P W b' sp hd t2 v2 d0 p0):∃ x,v2 = .int .u8 x ∧ d0 = .lit (.int .u8 x) ∧ p0 = [] ∧ (Lit.int .u8 x).wf = true :=
 open_int hu (hval 2 t2 v2 rfl rfl) h
theorem PC {A:Option Addr} {n c:Nat} {a:Option Addr} {l k:Nat} (h:(Value.slice a l k).cells.toList = [.slice A n c]):Value.slice a l k = .slice A n c:=by
 simpa [Value.cells] using h
set_option maxRecDepth 100000 in
theorem PD (H:Type) (enc:TypeId × Value → H) (W:World) (base:Nat) (args:Array Value) (ds gs:List (DataW H)) (before:List MemPlace)
  (hval:∀ (j:Nat) t v,Tryz.f3.params[j]? = some t → args[j]? = some v → Value.okWide Tryz.prog W .any base t v)
  (hW:DataW.Whole enc Tryz.prog Tryz.f3.params.toList Rows.fnRoadSyncSpec.vars false W args.toList ds gs before) (hk:Rows.uptoSmall H (ds ++ gs) = true) :
  Calls Tryz.prog 3 args W fun e W'=>∃ v,e = .returned v ∧ Rows.fnRoadSyncSpec.post enc Tryz.prog Tryz.f3 false true false false W args v W':=by
 have hW':=hW
 obtain ⟨p,q,hA0,hV,rfl,hfz,hnd⟩:=hW
 have hA:DataW.TrodAll enc Tryz.prog W 0 (fun _=>true) true Tryz.f3.params.toList args.toList ds p:=hA0
 rw [Tryz.params3] at hA hval
 obtain ⟨v0,v1,v2,v3,d0,d1,d2,d3,p0,p1,p2,p3,rfl,rfl,rfl,h0,h1,h2,h3⟩:=trodAll_four hA
 obtain ⟨rfl,rfl⟩:=trodVars_none hV
 obtain ⟨x,rfl,rfl,rfl,w0⟩:=Pz Tryz.underlying5 @hval h0
 obtain ⟨y,rfl,rfl,rfl,w1⟩:=PA Tryz.underlying5 @hval h1
 obtain ⟨z,rfl,rfl,rfl,w2⟩:=PB Tryz.underlying5 @hval h2
 have hx:0 ≤ x ∧ x ≤ 255:=by simpa [Lit.wf,IntKind.min,IntKind.max,IntKind.signed,IntKind.bits] using w0
 have hy:0 ≤ y ∧ y ≤ 255:=by simpa [Lit.wf,IntKind.min,IntKind.max,IntKind.signed,IntKind.bits] using w1
 have hz:0 ≤ z ∧ z ≤ 255:=by simpa [Lit.wf,IntKind.min,IntKind.max,IntKind.signed,IntKind.bits] using w2
 have hb:Rows.uptoBulk d3 ≤ 1048576:=by
  have h:Rows.uptoBulkAll ([DataW.lit (H:=H) (.int .u8 x),.lit (.int .u8 y),.lit (.int .u8 z),d3] ++ []) ≤ 1048576:=of_decide_eq_true hk
  simp only [List.append_nil,Rows.uptoBulkAll] at h
  omega
 obtain ⟨fuel,hf⟩:=h3
 obtain ⟨D,hcs,hok,hrg⟩:=NF Px Py hf hb
 obtain ⟨a1_,l1_,k1_,rfl⟩:=okWide_slice Tryz.underlying22 (hval 3 22 v3 rfl rfl)
 have hv:=PC hcs
 rw [hv] at hW' hval ⊢
 clear hf
 refine (Pu x y z hx hy hz D W (fun _ _=>True) hok hrg).mono fun e W' h=>?_
 obtain ⟨rfl,hs⟩:=h
 exact ⟨_,rfl,LD hW' hs Pw (by rw [Tryz.params3]; decide +kernel) rfl rfl rfl (fun _ _ _=>trodAll_cons_mk (shut_bool Tryz.underlying4 _) trodAll_mk0)⟩
theorem PE (os:Os) (args:Array Value):laidMetH Tryz.prog Rows.fnRoadSyncUptoRow.laid ((World.doorLaid Tryz.prog 400 os).forCall (fun _ _=>0) ⟨#[],args,[]⟩).memory :=
 laidMetH_of_parts3 (fuel:=8) (laidMet_of_run' 8 kz kz) kz kz
set_option maxRecDepth 100000 in
theorem PF (os:Os) (H:Type) (enc:TypeId × Value → H):∃ (w:World) (tape:Tape) (i:Input),w.os = os ∧ (w.forCall tape i).Shaped Tryz.prog ∧ i.vars = [] ∧ Input.okWide Tryz.prog (w.forCall tape i) .any w.heap.size 3 i ∧
      (((Rows.OpenSpec.upto Rows.fnRoadSyncSpec).pre enc Tryz.prog Tryz.f3 Rows.fnRoadSyncUptoRow.domain false (w.forCall tape i).memory i.args ∧ laidMetH Tryz.prog Rows.fnRoadSyncUptoRow.laid (w.forCall tape i).memory) ∧ sizedMet enc Tryz.prog Tryz.f3 (Rows.OpenSpec.upto Rows.fnRoadSyncSpec) false (w.forCall tape i).memory i.args) ∧
      ({}:Assume).holds Tryz.prog (lone (Frame.enter Tryz.prog 3 i.args .normal) [] (w.forCall tape i)):=by
  have hok:Input.okWideB Tryz.prog ((World.doorLaid Tryz.prog 400 os).forCall (fun _ _=>0) ⟨#[],#[.int .u8 0,.int .u8 0,.int .u8 0,.slice none 0 0],[]⟩) 3 ⟨#[],#[.int .u8 0,.int .u8 0,.int .u8 0,.slice none 0 0],[]⟩ = true:=by kernel_rfl
  refine ⟨World.doorLaid Tryz.prog 400 os,fun _ _=>0,⟨#[],#[.int .u8 0,.int .u8 0,.int .u8 0,.slice none 0 0],[]⟩,rfl,World.shaped_of_RefB kz kz,(Input.okWide_of_okWideB (base:=0) hok).1,(Input.okWide_of_okWideB hok).2,
    ⟨⟨(OpenSpec.pre_some (k:=Rows.uptoSmall) rfl _ _ _ _).2 ⟨[.lit (.int .u8 0),.lit (.int .u8 0),.lit (.int .u8 0),.nil],[],[],DataW.Whole_of_whole (fuel:=8) (x:=([.lit (.int .u8 0),.lit (.int .u8 0),.lit (.int .u8 0),.nil],[],[])) kz,rfl,kz⟩,PE os _⟩,sizedMet_of_sizedB (s:=(Rows.OpenSpec.upto Rows.fnRoadSyncSpec).bare) (fuel:=8) kz⟩,?_⟩
  simp only [Assume.holds]
  exact ⟨by simp,by simp,by simp,by simp,by simp⟩
set_option maxRecDepth 100000 in
theorem PG (os:Os) (started:os.Started) (H:Type) (enc:TypeId × Value → H) (F:Stop.Interp) :
  ReturnsInHanded {} Tryz.checked os 3 .any (fun w args=>((Rows.OpenSpec.upto Rows.fnRoadSyncSpec).pre enc Tryz.prog Tryz.f3 Rows.fnRoadSyncUptoRow.domain false w args ∧ laidMetH Tryz.prog Rows.fnRoadSyncUptoRow.laid w) ∧ sizedMet enc Tryz.prog Tryz.f3 (Rows.OpenSpec.upto Rows.fnRoadSyncSpec) false w args) (((Rows.OpenSpec.upto Rows.fnRoadSyncSpec).at F).post enc Tryz.prog Tryz.f3 false true false false):=by
 refine returnsInHanded_of_calls Pv started kz (PF os H enc) ?_
 intro w tape i _ _ _ hok hpre hholds
 obtain ⟨_,_,_,fn',hfn',_,_,_,_,hval⟩:=hok
 have e:fn' = Tryz.f3:=Option.some.inj (hfn'.symm.trans Tryz.func3)
 subst e
 obtain ⟨ds,gs,before,hw,hc,hkk⟩:=(OpenSpec.pre_some (k:=Rows.uptoSmall) rfl _ _ _ _).1 hpre.1.1
 have hw':=DataW.Whole.of_heap (w':=w.forCall tape i) (by rfl) hw
 refine (PD H enc (w.forCall tape i) w.heap.size i.args ds gs before hval hw' hkk).mono fun e W' ⟨v,he,hp⟩=>?_
 subst he
 exact ChangeSpec.post_blind hp
end Go.Proofs.YtipblegipibplaaGreatDoor.ME