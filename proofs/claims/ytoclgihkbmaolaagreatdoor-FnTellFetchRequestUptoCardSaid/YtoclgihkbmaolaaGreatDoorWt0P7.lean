/- Packed. Own work. -/
import Derived.Test.YtoclgihkbmaolaaGreatDoorWt0P6
import Derived.Test.YtoclgihkbmaolaaGreatDoorTie
import Derived.Test.YtoclgihkbmaolaaGreatDoorCards
import Derived.LaidMore
import Derived.SevenTiedAt
namespace Go.Proofs.YtoclgihkbmaolaaGreatDoor.ME
open Go
open Go.ChangeShapes Go.WideShapes Go.ChangeAt Go.RowKit
set_option linter.unusedVariables false
set_option linter.unusedSimpArgs false
theorem Pn:ownKnob Tryz.prog.godebug = none:=by kernel_rfl
theorem Po:laidOutB Tryz.prog = true:=by kernel_rfl
theorem Pp:TreeTys Tryz.prog 26 23 24 66 22 2 4 64 5:=⟨kz,kz,kz,kz,kz,kz,kz,kz,kz,kz⟩
theorem Pq {H:Type} {enc:TypeId × Value → H} {P:Program} {W:World} {base b':Nat} {sp:Nat → Bool} {hd:Bool} {t0 t1:TypeId} {v0 v1:Value} {d0:DataW H} {p0:List MemPlace} (hu:P.underlying t0 = some (.int .u8))
  (hval:∀ (j:Nat) (t:TypeId) (v:Value),#[t0,t1][j]? = some t → #[v0,v1][j]? = some v → Value.okWide P W .any base t v) (h:DataW.Trod enc P W b' sp hd t0 v0 d0 p0):∃ x,v0 = .int .u8 x ∧ d0 = .lit (.int .u8 x) ∧ p0 = [] ∧ (Lit.int .u8 x).wf = true :=
 open_int hu (hval 0 t0 v0 rfl rfl) h
theorem Ps {v:Value} {cs:List Value} (h:v.cells.toList = cs) (h5:cs.length = 5):v = .agg cs.toArray:=by
 subst h
 cases v <;> first | (simp [Value.cells] at h5; done) | simp [Value.cells]
theorem PL {A:Option Addr} {n c:Nat} {a:Option Addr} {l k:Nat} (h:(Value.slice a l k).cells.toList = [.slice A n c]):Value.slice a l k = .slice A n c:=by
 simpa [Value.cells] using h
set_option maxRecDepth 100000 in
theorem Pt (H:Type) (enc:TypeId × Value → H) (W:World) (base:Nat) (args:Array Value) (ds gs:List (DataW H)) (before:List MemPlace)
  (hval:∀ (j:Nat) t v,Tryz.f3.params[j]? = some t → args[j]? = some v → Value.okWide Tryz.prog W .any base t v)
  (hW:DataW.Whole enc Tryz.prog Tryz.f3.params.toList Rows.fnTellFetchRequestSpec.vars false W args.toList ds gs before) (hk:Rows.uptoSmall H (ds ++ gs) = true) :
  Calls Tryz.prog 3 args W fun e W'=>∃ v,e = .returned v ∧ Rows.fnTellFetchRequestSpec.post enc Tryz.prog Tryz.f3 false true false false W args v W':=by
 have hW':=hW
 obtain ⟨p,q,hA0,hV,rfl,hfz,hnd⟩:=hW
 have hA:DataW.TrodAll enc Tryz.prog W 0 (fun _=>true) true Tryz.f3.params.toList args.toList ds p:=hA0
 rw [Tryz.params3] at hA hval
 obtain ⟨v0,v1,d0,d1,p0,p1,rfl,rfl,rfl,h0,h2⟩:=trodAll_two hA
 obtain ⟨rfl,rfl⟩:=trodVars_none hV
 obtain ⟨x,rfl,rfl,rfl,w0⟩:=Pq Tryz.underlying5 @hval h0
 have hx:0 ≤ x ∧ x ≤ 255:=by simpa [Lit.wf,IntKind.min,IntKind.max,IntKind.signed,IntKind.bits] using w0
 have hb:Rows.uptoBulk d1 ≤ 1048576:=by
  have h:Rows.uptoBulkAll ([DataW.lit (H:=H) (.int .u8 x),d1] ++ []) ≤ 1048576:=of_decide_eq_true hk
  simp only [List.append_nil,Rows.uptoBulkAll] at h
  omega
 obtain ⟨fuel,hf⟩:=h2
 obtain ⟨t,ht,hsz,hi⟩:=LZ Pp fuel _ _ hf hb
 replace hsz:t.size ≤ 8388608:=Nat.le_trans hsz (by show 8 * Rows.uptoBulk d1 ≤ 8388608; omega)
 have hagg:=Ps rfl (TreeR.five ht)
 generalize v1.cells.toList = ct at ht hagg
 subst hagg
 clear hf
 refine (Pm x hx _ t W (fun _ _=>True) ht hi hsz).mono fun e W' h=>?_
 obtain ⟨rfl,hs⟩:=h
 exact ⟨_,rfl,Ma hW' hs Po (by rw [Tryz.params3]; decide +kernel) rfl rfl rfl (fun _ _ _=>trodAll_cons_mk (shut_bool Tryz.underlying4 _) trodAll_mk0)⟩
theorem Pu (os:Os) (args:Array Value):laidMetH Tryz.prog Rows.fnTellFetchRequestUptoRow.laid ((World.doorLaid Tryz.prog 400 os).forCall (fun _ _=>0) ⟨#[],args,[]⟩).memory :=
 laidMetH_of_parts3 (fuel:=8) (laidMet_of_run' 8 kz kz) kz kz
set_option maxRecDepth 100000 in
theorem Pv (os:Os) (H:Type) (enc:TypeId × Value → H):∃ (w:World) (tape:Tape) (i:Input),w.os = os ∧ (w.forCall tape i).Shaped Tryz.prog ∧ i.vars = [] ∧ Input.okWide Tryz.prog (w.forCall tape i) .any w.heap.size 3 i ∧
      (((Rows.OpenSpec.upto Rows.fnTellFetchRequestSpec).pre enc Tryz.prog Tryz.f3 Rows.fnTellFetchRequestUptoRow.domain false (w.forCall tape i).memory i.args ∧ laidMetH Tryz.prog Rows.fnTellFetchRequestUptoRow.laid (w.forCall tape i).memory) ∧ sizedMet enc Tryz.prog Tryz.f3 (Rows.OpenSpec.upto Rows.fnTellFetchRequestSpec) false (w.forCall tape i).memory i.args) ∧
      ({}:Assume).holds Tryz.prog (lone (Frame.enter Tryz.prog 3 i.args .normal) [] (w.forCall tape i)):=by
  have hok:Input.okWideB Tryz.prog ((World.doorLaid Tryz.prog 400 os).forCall (fun _ _=>0) ⟨#[],#[.int .u8 0,.agg #[.int .i64 0,.slice none 0 0,.bool false,.slice none 0 0,.slice none 0 0]],[]⟩) 3 ⟨#[],#[.int .u8 0,.agg #[.int .i64 0,.slice none 0 0,.bool false,.slice none 0 0,.slice none 0 0]],[]⟩ = true:=by kernel_rfl
  refine ⟨World.doorLaid Tryz.prog 400 os,fun _ _=>0,⟨#[],#[.int .u8 0,.agg #[.int .i64 0,.slice none 0 0,.bool false,.slice none 0 0,.slice none 0 0]],[]⟩,rfl,World.shaped_of_RefB kz kz,(Input.okWide_of_okWideB (base:=0) hok).1,(Input.okWide_of_okWideB hok).2,
    ⟨⟨(OpenSpec.pre_some (k:=Rows.uptoSmall) rfl _ _ _ _).2 ⟨[.lit (.int .u8 0),.agg [.lit (.int .i64 0),.nil,.lit (.bool false),.nil,.nil]],[],[],DataW.Whole_of_whole (fuel:=8) (x:=([.lit (.int .u8 0),.agg [.lit (.int .i64 0),.nil,.lit (.bool false),.nil,.nil]],[],[])) kz,rfl,kz⟩,Pu os _⟩,sizedMet_of_sizedB (s:=(Rows.OpenSpec.upto Rows.fnTellFetchRequestSpec).bare) (fuel:=8) kz⟩,?_⟩
  simp only [Assume.holds]
  exact ⟨by simp,by simp,by simp,by simp,by simp⟩
set_option maxRecDepth 100000 in
theorem Pw (os:Os) (started:os.Started) (H:Type) (enc:TypeId × Value → H) (F:Stop.Interp) :
  ReturnsInHanded {} Tryz.checked os 3 .any (fun w args=>((Rows.OpenSpec.upto Rows.fnTellFetchRequestSpec).pre enc Tryz.prog Tryz.f3 Rows.fnTellFetchRequestUptoRow.domain false w args ∧ laidMetH Tryz.prog Rows.fnTellFetchRequestUptoRow.laid w) ∧ sizedMet enc Tryz.prog Tryz.f3 (Rows.OpenSpec.upto Rows.fnTellFetchRequestSpec) false w args) (((Rows.OpenSpec.upto Rows.fnTellFetchRequestSpec).at F).post enc Tryz.prog Tryz.f3 false true false false):=by
 refine returnsInHanded_of_calls Pn started kz (Pv os H enc) ?_
 intro w tape i _ _ _ hok hpre hholds
 obtain ⟨_,_,_,fn',hfn',_,_,_,_,hval⟩:=hok
 have e:fn' = Tryz.f3:=Option.some.inj (hfn'.symm.trans Tryz.func3)
 subst e
 obtain ⟨ds,gs,before,hw,hc,hkk⟩:=(OpenSpec.pre_some (k:=Rows.uptoSmall) rfl _ _ _ _).1 hpre.1.1
 have hw':=DataW.Whole.of_heap (w':=w.forCall tape i) (by rfl) hw
 refine (Pt H enc (w.forCall tape i) w.heap.size i.args ds gs before hval hw' hkk).mono fun e W' ⟨v,he,hp⟩=>?_
 subst he
 exact ChangeSpec.post_blind hp
end Go.Proofs.YtoclgihkbmaolaaGreatDoor.ME