/- The texts of a claim, put together: the engine, the contracts, the law. Own work. -/
import Derived.Test.YtmpejmiiphddhaaDoorRWu1P4
import Derived.Test.YtmpejmiiphddhaaDoorRTie
import Derived.Test.YtmpejmiiphddhaaDoorRCards
import Derived.LaidMore
import Derived.SevenTiedAt
namespace Go.Proofs.YtmpejmiiphddhaaDoorR.ME
open Go
open Go.ChangeShapes Go.WideShapes Go.ChangeAt Go.RowKit
set_option linter.unusedVariables false
set_option linter.unusedSimpArgs false
theorem qhl:ownKnob Tryd.prog.godebug = none:=by kernel_rfl
theorem qhm:laidOutB Tryd.prog = true:=by kernel_rfl
theorem qhX:TreeTys Tryd.prog 35 32 33 50 22 2 4 48 5:=⟨kz,kz,kz,kz,kz,kz,kz,kz,kz,kz⟩
theorem qf3 {H:Type} {enc:TypeId × Value → H} {P:Program} {W:World} {base b':Nat} {sp:Nat → Bool} {hd:Bool} {t0 t1:TypeId} {v0 v1:Value} {d0:DataW H} {p0:List MemPlace} (hu:P.underlying t0 = some (.int .u8))
  (hval:∀ (j:Nat) (t:TypeId) (v:Value),#[t0,t1][j]? = some t → #[v0,v1][j]? = some v → Value.okWide P W .any base t v) (h:DataW.Trod enc P W b' sp hd t0 v0 d0 p0):∃ x,v0 = .int .u8 x ∧ d0 = .lit (.int .u8 x) ∧ p0 = [] ∧ (Lit.int .u8 x).wf = true :=
 open_int hu (hval 0 t0 v0 rfl rfl) h
theorem qhn {A:Option Addr} {n c:Nat} {a:Option Addr} {l k:Nat} (h:(Value.slice a l k).cells.toList = [.slice A n c]):Value.slice a l k = .slice A n c:=by
 simpa [Value.cells] using h
theorem qf4 {H:Type} {enc:TypeId × Value → H} {P:Program} {W:World} {sp:Nat → Bool} {fuel:Nat} {t:TypeId} {cs:List Value} {nm:String} {d:DataW H} {p:List MemPlace} (hu:∃ m,P.underlying t = some (.interface m)) (h:DataW.trod enc P W 0 sp false fuel t cs = some (.iface nm d,p)):∃ u v,cs = [.iface u v]:=by
 obtain ⟨m,hu⟩:=hu
 cases fuel with
 | zero=>simp [DataW.trod] at h
 | succ fuel =>
  unfold DataW.trod at h
  rw [hu] at h
  match cs,h with
  | [.iface u v],_=>exact ⟨u,v,rfl⟩
  | [.nilIface],h=>simp at h
  | [],h=>simp at h
  | _ :: _ :: _,h=>simp at h
  | [.bool _],h=>simp at h
  | [.int _ _],h=>simp at h
  | [.float _ _],h=>simp at h
  | [.complex _ _ _],h=>simp at h
  | [.string _],h=>simp at h
  | [.pointer _],h=>simp at h
  | [.slice _ _ _],h=>simp at h
  | [.agg _],h=>simp at h
  | [.map _],h=>simp at h
  | [.chan _],h=>simp at h
  | [.nilFunc],h=>simp at h
  | [.func _ _ _],h=>simp at h
  | [.tuple _],h=>simp at h
theorem qiA {W W':World} (hh:W.heap = W'.heap) (h:laidMetH Tryd.prog Rows.fnUnsafeCreateDelegationTokenRequestUptoRow.laid W):∃ ue ve,AtF W' (fun _ _=>True) 0 0 [.iface ue ve]:=by
 rw [MakeChecks.laidMetH_plain _ _ _ kz] at h
 obtain ⟨ps,hv,_,_⟩:=laidMet.of_heap hh h
 obtain ⟨g,t,cs,fuel,p,q,h1,h2,h3,h4,_,_⟩:=hv
 have e1 : Tryd.prog.globalNamed "pub-mailsack/pub/kmsg/inner/kbin.ErrNotEnoughData" = some 0 := by kernel_rfl
 obtain rfl:0 = g:=Option.some.inj (e1.symm.trans h1)
 have e2:(Tryd.prog.globals[0]?).map (·.type) = some 44:=by kernel_rfl
 obtain rfl:44 = t:=Option.some.inj (e2.symm.trans h2)
 obtain ⟨u,v,hc⟩:=qf4 ⟨_,Tryd.underlying44⟩ h4
 unfold World.var? at h3
 rw [e1] at h3
 simp only [Option.bind_some] at h3
 refine ⟨u,v,fun j x hj=>⟨trivial,?_⟩⟩
 split at h3
 ·rename_i cs' e fz hq
  obtain rfl:=Option.some.inj h3
  obtain rfl:j = 0:=by
   have:=(List.getElem?_eq_some_iff.1 hj).1
   simp at this; omega
  simp only [List.getElem?_cons_zero,Option.some.injEq] at hj
  subst hj
  simp only [World.cell?,hq]
  rw [← Array.getElem?_toList,hc]
  rfl
 cases h3
set_option maxRecDepth 100000 in
theorem qgM (H:Type) (enc:TypeId × Value → H) (W:World) (base:Nat) (args:Array Value) (ds gs:List (DataW H)) (before:List MemPlace)
  (hval:∀ (j:Nat) t v,Tryd.f3.params[j]? = some t → args[j]? = some v → Value.okWide Tryd.prog W .any base t v)
  (hW:DataW.Whole enc Tryd.prog Tryd.f3.params.toList Rows.fnUnsafeCreateDelegationTokenRequestSpec.vars false W args.toList ds gs before) (hk:Rows.uptoSmall H (ds ++ gs) = true) {ue:TypeId} {ve:Value} (hgl:AtF W (fun _ _=>True) 0 0 [.iface ue ve]) :
  Calls Tryd.prog 3 args W fun e W'=>∃ v,e = .returned v ∧ Rows.fnUnsafeCreateDelegationTokenRequestSpec.post enc Tryd.prog Tryd.f3 false true false false W args v W':=by
 have hW':=hW
 obtain ⟨p,q,hA0,hV,rfl,hfz,hnd⟩:=hW
 have hA:DataW.TrodAll enc Tryd.prog W 0 (fun _=>true) true Tryd.f3.params.toList args.toList ds p:=hA0
 rw [Tryd.params3] at hA hval
 obtain ⟨v0,v1,d0,d1,p0,p1,rfl,rfl,rfl,h0,h1⟩:=trodAll_two hA
 obtain ⟨rfl,rfl⟩:=trodVars_none hV
 obtain ⟨x,rfl,rfl,rfl,w0⟩:=qf3 Tryd.underlying5 @hval h0
 have hx:0 ≤ x ∧ x ≤ 255:=by simpa [Lit.wf,IntKind.min,IntKind.max,IntKind.signed,IntKind.bits] using w0
 have hb:Rows.uptoBulk d1 ≤ 1048576:=by
  have h:Rows.uptoBulkAll ([DataW.lit (H:=H) (.int .u8 x),d1] ++ []) ≤ 1048576:=of_decide_eq_true hk
  simp only [List.append_nil,Rows.uptoBulkAll] at h
  omega
 obtain ⟨fuel1,hf1⟩:=h1
 obtain ⟨A1,c1,dst,hcs1,hd,hdl⟩:=qgm qhX hf1 hb
 obtain ⟨a1_,l1_,k1_,rfl⟩:=okWide_slice Tryd.underlying22 (hval 1 22 v1 rfl rfl)
 have hv1:=qhn hcs1
 rw [hv1] at hW' hval ⊢
 clear hf1
 refine (qb8 x hx dst W (fun _ _=>True) hd hgl).mono fun e W' h=>?_
 obtain ⟨rfl,hs⟩:=h
 exact ⟨_,rfl,qgn hW' hs qhm (by rw [Tryd.params3]; decide +kernel) rfl rfl rfl (fun _ _ _=>trodAll_cons_mk (shut_bool Tryd.underlying4 _) trodAll_mk0)⟩
theorem qho (os:Os) (args:Array Value):laidMetH Tryd.prog Rows.fnUnsafeCreateDelegationTokenRequestUptoRow.laid ((World.doorLaid Tryd.prog 400 os).forCall (fun _ _=>0) ⟨#[],args,[]⟩).memory :=
 laidMetH_of_parts3 (fuel:=8) (laidMet_of_run' 8 kz kz) kz kz
set_option maxRecDepth 100000 in
theorem qhp (os:Os) (H:Type) (enc:TypeId × Value → H):∃ (w:World) (tape:Tape) (i:Input),w.os = os ∧ (w.forCall tape i).Shaped Tryd.prog ∧ i.vars = [] ∧ Input.okWide Tryd.prog (w.forCall tape i) .any w.heap.size 3 i ∧
      (((Rows.OpenSpec.upto Rows.fnUnsafeCreateDelegationTokenRequestSpec).pre enc Tryd.prog Tryd.f3 Rows.fnUnsafeCreateDelegationTokenRequestUptoRow.domain false (w.forCall tape i).memory i.args ∧ laidMetH Tryd.prog Rows.fnUnsafeCreateDelegationTokenRequestUptoRow.laid (w.forCall tape i).memory) ∧ sizedMet enc Tryd.prog Tryd.f3 (Rows.OpenSpec.upto Rows.fnUnsafeCreateDelegationTokenRequestSpec) false (w.forCall tape i).memory i.args) ∧
      ({}:Assume).holds Tryd.prog (lone (Frame.enter Tryd.prog 3 i.args .normal) [] (w.forCall tape i)):=by
  have hok:Input.okWideB Tryd.prog ((World.doorLaid Tryd.prog 400 os).forCall (fun _ _=>0) ⟨#[],#[.int .u8 0,.slice none 0 0],[]⟩) 3 ⟨#[],#[.int .u8 0,.slice none 0 0],[]⟩ = true:=by kernel_rfl
  refine ⟨World.doorLaid Tryd.prog 400 os,fun _ _=>0,⟨#[],#[.int .u8 0,.slice none 0 0],[]⟩,rfl,World.shaped_of_RefB kz kz,(Input.okWide_of_okWideB (base:=0) hok).1,(Input.okWide_of_okWideB hok).2,
    ⟨⟨(OpenSpec.pre_some (k:=Rows.uptoSmall) rfl _ _ _ _).2 ⟨[.lit (.int .u8 0),.nil],[],[],DataW.Whole_of_whole (fuel:=8) (x:=([.lit (.int .u8 0),.nil],[],[])) kz,rfl,kz⟩,qho os _⟩,sizedMet_of_sizedB (s:=(Rows.OpenSpec.upto Rows.fnUnsafeCreateDelegationTokenRequestSpec).bare) (fuel:=8) kz⟩,?_⟩
  simp only [Assume.holds]
  exact ⟨by simp,by simp,by simp,by simp,by simp⟩
set_option maxRecDepth 100000 in
theorem qhY (os:Os) (started:os.Started) (H:Type) (enc:TypeId × Value → H) (F:Stop.Interp) :
  ReturnsInHanded {} Tryd.checked os 3 .any (fun w args=>((Rows.OpenSpec.upto Rows.fnUnsafeCreateDelegationTokenRequestSpec).pre enc Tryd.prog Tryd.f3 Rows.fnUnsafeCreateDelegationTokenRequestUptoRow.domain false w args ∧ laidMetH Tryd.prog Rows.fnUnsafeCreateDelegationTokenRequestUptoRow.laid w) ∧ sizedMet enc Tryd.prog Tryd.f3 (Rows.OpenSpec.upto Rows.fnUnsafeCreateDelegationTokenRequestSpec) false w args) (((Rows.OpenSpec.upto Rows.fnUnsafeCreateDelegationTokenRequestSpec).at F).post enc Tryd.prog Tryd.f3 false true false false):=by
 refine returnsInHanded_of_calls qhl started kz (qhp os H enc) ?_
 intro w tape i _ _ _ hok hpre hholds
 obtain ⟨_,_,_,fn',hfn',_,_,_,_,hval⟩:=hok
 have e:fn' = Tryd.f3:=Option.some.inj (hfn'.symm.trans Tryd.func3)
 subst e
 obtain ⟨ds,gs,before,hw,hc,hkk⟩:=(OpenSpec.pre_some (k:=Rows.uptoSmall) rfl _ _ _ _).1 hpre.1.1
 have hw':=DataW.Whole.of_heap (w':=w.forCall tape i) (by rfl) hw
 obtain ⟨ue,ve,hgl⟩:=qiA (W':=w.forCall tape i) (by rfl) hpre.1.2
 refine (qgM H enc (w.forCall tape i) w.heap.size i.args ds gs before hval hw' hkk hgl).mono fun e W' ⟨v,he,hp⟩=>?_
 subst he
 exact ChangeSpec.post_blind hp
end Go.Proofs.YtmpejmiiphddhaaDoorR.ME