/- The texts of a claim, put together: the engine, the contracts, the law. Own work. -/
import Derived.Test.YtajibgahdkllkaaDoorRWt0P4
import Derived.Test.YtajibgahdkllkaaDoorRTie
import Derived.Test.YtajibgahdkllkaaDoorRCards
import Derived.LaidMore
import Derived.SevenTiedAt
namespace Go.Proofs.YtajibgahdkllkaaDoorR.ME
open Go
open Go.ChangeShapes Go.WideShapes Go.ChangeAt Go.RowKit
set_option linter.unusedVariables false
set_option linter.unusedSimpArgs false
theorem qh8:ownKnob Tryd.prog.godebug = none:=by kernel_rfl
theorem qh9:laidOutB Tryd.prog = true:=by kernel_rfl
theorem qja:TreeTys Tryd.prog 37 34 35 64 22 2 4 62 5:=⟨kz,kz,kz,kz,kz,kz,kz,kz,kz,kz⟩
theorem qgy {H:Type} {enc:TypeId × Value → H} {P:Program} {W:World} {base b':Nat} {sp:Nat → Bool} {hd:Bool} {t0 t1:TypeId} {v0 v1:Value} {d0:DataW H} {p0:List MemPlace} (hu:P.underlying t0 = some (.int .u8))
  (hval:∀ (j:Nat) (t:TypeId) (v:Value),#[t0,t1][j]? = some t → #[v0,v1][j]? = some v → Value.okWide P W .any base t v) (h:DataW.Trod enc P W b' sp hd t0 v0 d0 p0):∃ x,v0 = .int .u8 x ∧ d0 = .lit (.int .u8 x) ∧ p0 = [] ∧ (Lit.int .u8 x).wf = true :=
 open_int hu (hval 0 t0 v0 rfl rfl) h
theorem qjK {v:Value} {cs:List Value} (h:v.cells.toList = cs) (h5:cs.length = 5):v = .agg cs.toArray:=by
 subst h
 cases v <;> first | (simp [Value.cells] at h5; done) | simp [Value.cells]
theorem qjL {A:Option Addr} {n c:Nat} {a:Option Addr} {l k:Nat} (h:(Value.slice a l k).cells.toList = [.slice A n c]):Value.slice a l k = .slice A n c:=by
 simpa [Value.cells] using h
set_option maxRecDepth 100000 in
theorem qhB (H:Type) (enc:TypeId × Value → H) (W:World) (base:Nat) (args:Array Value) (ds gs:List (DataW H)) (before:List MemPlace)
  (hval:∀ (j:Nat) t v,Tryd.f6.params[j]? = some t → args[j]? = some v → Value.okWide Tryd.prog W .any base t v)
  (hW:DataW.Whole enc Tryd.prog Tryd.f6.params.toList Rows.fnTellConnectMemberMetadataSpec.vars false W args.toList ds gs before) (hk:Rows.uptoSmall H (ds ++ gs) = true) :
  Calls Tryd.prog 6 args W fun e W'=>∃ v,e = .returned v ∧ Rows.fnTellConnectMemberMetadataSpec.post enc Tryd.prog Tryd.f6 false true false false W args v W':=by
 have hW':=hW
 obtain ⟨p,q,hA0,hV,rfl,hfz,hnd⟩:=hW
 have hA:DataW.TrodAll enc Tryd.prog W 0 (fun _=>true) true Tryd.f6.params.toList args.toList ds p:=hA0
 rw [Tryd.params6] at hA hval
 obtain ⟨v0,v1,d0,d1,p0,p1,rfl,rfl,rfl,h0,h2⟩:=trodAll_two hA
 obtain ⟨rfl,rfl⟩:=trodVars_none hV
 obtain ⟨x,rfl,rfl,rfl,w0⟩:=qgy Tryd.underlying5 @hval h0
 have hx:0 ≤ x ∧ x ≤ 255:=by simpa [Lit.wf,IntKind.min,IntKind.max,IntKind.signed,IntKind.bits] using w0
 have hb:Rows.uptoBulk d1 ≤ 1048576:=by
  have h:Rows.uptoBulkAll ([DataW.lit (H:=H) (.int .u8 x),d1] ++ []) ≤ 1048576:=of_decide_eq_true hk
  simp only [List.append_nil,Rows.uptoBulkAll] at h
  omega
 obtain ⟨fuel,hf⟩:=h2
 obtain ⟨t,ht,hsz,hi⟩:=qgn qja fuel _ _ hf hb
 replace hsz:t.size ≤ 8388608:=Nat.le_trans hsz (by show 8 * Rows.uptoBulk d1 ≤ 8388608; omega)
 have hagg:=qjK rfl (TreeR.five ht)
 generalize v1.cells.toList = ct at ht hagg
 subst hagg
 clear hf
 refine (qb5 x hx _ t W (fun _ _=>True) ht hi hsz).mono fun e W' h=>?_
 obtain ⟨rfl,hs⟩:=h
 exact ⟨_,rfl,qhh hW' hs qh9 (by rw [Tryd.params6]; decide +kernel) rfl rfl rfl (fun _ _ _=>trodAll_cons_mk (shut_bool Tryd.underlying4 _) trodAll_mk0)⟩
theorem qia (os:Os) (args:Array Value):laidMetH Tryd.prog Rows.fnTellConnectMemberMetadataUptoRow.laid ((World.doorLaid Tryd.prog 400 os).forCall (fun _ _=>0) ⟨#[],args,[]⟩).memory :=
 laidMetH_of_parts3 (fuel:=8) (laidMet_of_run' 8 kz kz) kz kz
set_option maxRecDepth 100000 in
theorem qib (os:Os) (H:Type) (enc:TypeId × Value → H):∃ (w:World) (tape:Tape) (i:Input),w.os = os ∧ (w.forCall tape i).Shaped Tryd.prog ∧ i.vars = [] ∧ Input.okWide Tryd.prog (w.forCall tape i) .any w.heap.size 6 i ∧
      (((Rows.OpenSpec.upto Rows.fnTellConnectMemberMetadataSpec).pre enc Tryd.prog Tryd.f6 Rows.fnTellConnectMemberMetadataUptoRow.domain false (w.forCall tape i).memory i.args ∧ laidMetH Tryd.prog Rows.fnTellConnectMemberMetadataUptoRow.laid (w.forCall tape i).memory) ∧ sizedMet enc Tryd.prog Tryd.f6 (Rows.OpenSpec.upto Rows.fnTellConnectMemberMetadataSpec) false (w.forCall tape i).memory i.args) ∧
      ({}:Assume).holds Tryd.prog (lone (Frame.enter Tryd.prog 6 i.args .normal) [] (w.forCall tape i)):=by
  have hok:Input.okWideB Tryd.prog ((World.doorLaid Tryd.prog 400 os).forCall (fun _ _=>0) ⟨#[],#[.int .u8 0,.agg #[.int .i64 0,.slice none 0 0,.bool false,.slice none 0 0,.slice none 0 0]],[]⟩) 6 ⟨#[],#[.int .u8 0,.agg #[.int .i64 0,.slice none 0 0,.bool false,.slice none 0 0,.slice none 0 0]],[]⟩ = true:=by kernel_rfl
  refine ⟨World.doorLaid Tryd.prog 400 os,fun _ _=>0,⟨#[],#[.int .u8 0,.agg #[.int .i64 0,.slice none 0 0,.bool false,.slice none 0 0,.slice none 0 0]],[]⟩,rfl,World.shaped_of_RefB kz kz,(Input.okWide_of_okWideB (base:=0) hok).1,(Input.okWide_of_okWideB hok).2,
    ⟨⟨(OpenSpec.pre_some (k:=Rows.uptoSmall) rfl _ _ _ _).2 ⟨[.lit (.int .u8 0),.agg [.lit (.int .i64 0),.nil,.lit (.bool false),.nil,.nil]],[],[],DataW.Whole_of_whole (fuel:=8) (x:=([.lit (.int .u8 0),.agg [.lit (.int .i64 0),.nil,.lit (.bool false),.nil,.nil]],[],[])) kz,rfl,kz⟩,qia os _⟩,sizedMet_of_sizedB (s:=(Rows.OpenSpec.upto Rows.fnTellConnectMemberMetadataSpec).bare) (fuel:=8) kz⟩,?_⟩
  simp only [Assume.holds]
  exact ⟨by simp,by simp,by simp,by simp,by simp⟩
set_option maxRecDepth 100000 in
theorem qjb (os:Os) (started:os.Started) (H:Type) (enc:TypeId × Value → H) (F:Stop.Interp) :
  ReturnsInHanded {} Tryd.checked os 6 .any (fun w args=>((Rows.OpenSpec.upto Rows.fnTellConnectMemberMetadataSpec).pre enc Tryd.prog Tryd.f6 Rows.fnTellConnectMemberMetadataUptoRow.domain false w args ∧ laidMetH Tryd.prog Rows.fnTellConnectMemberMetadataUptoRow.laid w) ∧ sizedMet enc Tryd.prog Tryd.f6 (Rows.OpenSpec.upto Rows.fnTellConnectMemberMetadataSpec) false w args) (((Rows.OpenSpec.upto Rows.fnTellConnectMemberMetadataSpec).at F).post enc Tryd.prog Tryd.f6 false true false false):=by
 refine returnsInHanded_of_calls qh8 started kz (qib os H enc) ?_
 intro w tape i _ _ _ hok hpre hholds
 obtain ⟨_,_,_,fn',hfn',_,_,_,_,hval⟩:=hok
 have e:fn' = Tryd.f6:=Option.some.inj (hfn'.symm.trans Tryd.func6)
 subst e
 obtain ⟨ds,gs,before,hw,hc,hkk⟩:=(OpenSpec.pre_some (k:=Rows.uptoSmall) rfl _ _ _ _).1 hpre.1.1
 have hw':=DataW.Whole.of_heap (w':=w.forCall tape i) (by rfl) hw
 refine (qhB H enc (w.forCall tape i) w.heap.size i.args ds gs before hval hw' hkk).mono fun e W' ⟨v,he,hp⟩=>?_
 subst he
 exact ChangeSpec.post_blind hp
end Go.Proofs.YtajibgahdkllkaaDoorR.ME