/- The texts of a claim, put together: the engine, the contracts, the law. Own work. -/
import Derived.Test.YtoclgihkbmaolabGreatDoorWf0P6
import Derived.Test.YtoclgihkbmaolabGreatDoorTie
import Derived.Test.YtoclgihkbmaolabGreatDoorCards
import Derived.LaidMore
import Derived.SevenTiedAt
import Derived.Carry
namespace Go.Proofs.YtoclgihkbmaolabGreatDoor.ME
open Go
open Go.ChangeShapes Go.WideShapes Go.ChangeAt Go.RowKit
set_option linter.unusedVariables false
set_option linter.unusedSimpArgs false
theorem qlw:ownKnob Tryz.prog.godebug = none:=by kernel_rfl
theorem qlx:laidOutB Tryz.prog = true:=by kernel_rfl
theorem qmv:TreeTys Tryz.prog 28 25 26 61 24 2 4 59 5:=⟨kz,kz,kz,kz,kz,kz,kz,kz,kz,kz⟩
theorem qjt {H:Type} {enc:TypeId × Value → H} {P:Program} {W:World} {base b':Nat} {sp:Nat → Bool} {hd:Bool} {t0 t1 t2 t3:TypeId} {v0 v1 v2 v3:Value} {d0:DataW H} {p0:List MemPlace} (hu:P.underlying t0 = some (.int .u8))
  (hval:∀ (j:Nat) (t:TypeId) (v:Value),#[t0,t1,t2,t3][j]? = some t → #[v0,v1,v2,v3][j]? = some v → Value.okWide P W .any base t v) (h:DataW.Trod enc P W b' sp hd t0 v0 d0 p0):∃ x,v0 = .int .u8 x ∧ d0 = .lit (.int .u8 x) ∧ p0 = [] ∧ (Lit.int .u8 x).wf = true :=
 open_int hu (hval 0 t0 v0 rfl rfl) h
theorem qnm {v:Value} {cs:List Value} (h:v.cells.toList = cs) (h5:cs.length = 5):v = .agg cs.toArray:=by
 subst h
 cases v <;> first | (simp [Value.cells] at h5; done) | simp [Value.cells]
theorem qju {H:Type} {enc:TypeId × Value → H} {P:Program} {W:World} {base b':Nat} {sp:Nat → Bool} {hd:Bool} {t0 t1 t2 t3:TypeId} {v0 v1 v2 v3:Value} {d0:DataW H} {p0:List MemPlace} (hu:P.underlying t2 = some (.int .i32))
  (hval:∀ (j:Nat) (t:TypeId) (v:Value),#[t0,t1,t2,t3][j]? = some t → #[v0,v1,v2,v3][j]? = some v → Value.okWide P W .any base t v) (h:DataW.Trod enc P W b' sp hd t2 v2 d0 p0):∃ x,v2 = .int .i32 x ∧ d0 = .lit (.int .i32 x) ∧ p0 = [] ∧ (Lit.int .i32 x).wf = true :=
 open_int hu (hval 2 t2 v2 rfl rfl) h
theorem qmw {v:Value} {c0 c1:Value} (h:v.cells.toList = [c0,c1]):v = .agg #[c0,c1]:=by
 cases v <;> first | (simp [Value.cells] at h; done) | (simp only [Value.cells] at h ⊢; congr 1; apply Array.ext'; simpa using h)
theorem qmx {H:Type} {enc:TypeId × Value → H} {P:Program} {W:World} {sp:Nat → Bool} {hd:Bool} {TD TO TS:TypeId} {fuel:Nat} {cs:List Value} {x:DataW H × List MemPlace} (hT:qfb P TD = some [(TO,0),(TS,1)]) (hO:P.underlying TO = some .bool) (hS:P.underlying TS = some .string) (hc:(P.cellsOf TD,P.cellsOf TO,P.cellsOf TS) = (2,1,1))
  (h:DataW.trod enc P W 0 sp hd fuel TD cs = some x):∃ (b:Bool) (s:ByteArray),cs = [.bool b,.string s] ∧ s.size ≤ Rows.uptoBulk x.1:=by
 simp only [Prod.mk.injEq] at hc
 obtain ⟨fs,hfs,hsz,hl⟩:=qeT hT
 obtain ⟨xs,m,rfl,rfl,hcl,hxl,hx⟩:=DataW.trod_struct hfs h
 rw [hsz] at hxl
 have hxl':xs.length = 2:=hxl
 rw [hc.1] at hcl
 match cs,hcl with
 | [c0,c1],_ =>
  obtain ⟨y0,e0,k0⟩:=qdE hx hl (i:=0) rfl hc.2.1 (by omega) (c:=c0) rfl
  obtain ⟨y1,e1,k1⟩:=qdE hx hl (i:=1) rfl hc.2.2 (by omega) (c:=c1) rfl
  obtain ⟨b,hb,_⟩:=DataW.trod_bool hO k0
  obtain ⟨s,hs,hy,_⟩:=DataW.trod_string hS k1
  simp only [List.cons.injEq,and_true] at hb hs
  subst hb; subst hs
  refine ⟨b,s,rfl,?_⟩
  have h1:Rows.uptoBulk y1.1 ≤ Rows.uptoBulkAll (xs.map (·.1)):=qfa (List.mem_map.2 ⟨_,List.mem_of_getElem? e1,rfl⟩)
  have h2:s.size + 1 ≤ Rows.uptoBulk y1.1:=by
   rw [hy]
   show s.size + 1 ≤ s.data.toList.length + 1
   rw [Array.length_toList]
   exact Nat.le_refl _
  dsimp only
  unfold Rows.uptoBulk
  omega
theorem qno {A:Option Addr} {n c:Nat} {a:Option Addr} {l k:Nat} (h:(Value.slice a l k).cells.toList = [.slice A n c]):Value.slice a l k = .slice A n c:=by
 simpa [Value.cells] using h
set_option maxRecDepth 100000 in
theorem qkR (H:Type) (enc:TypeId × Value → H) (W:World) (base:Nat) (args:Array Value) (ds gs:List (DataW H)) (before:List MemPlace)
  (hval:∀ (j:Nat) t v,Tryz.f3.params[j]? = some t → args[j]? = some v → Value.okWide Tryz.prog W .any base t v)
  (hW:DataW.Whole enc Tryz.prog Tryz.f3.params.toList Rows.fnFrameFetchSnapshotRequestSpec.vars false W args.toList ds gs before) (hk:Rows.uptoSmall H (ds ++ gs) = true) :
  Calls Tryz.prog 3 args W fun e W'=>∃ v,e = .returned v ∧ Rows.fnFrameFetchSnapshotRequestSpec.post enc Tryz.prog Tryz.f3 false true false false W args v W':=by
 have hW':=hW
 obtain ⟨p,q,hA0,hV,rfl,hfz,hnd⟩:=hW
 have hA:DataW.TrodAll enc Tryz.prog W 0 (fun _=>true) true Tryz.f3.params.toList args.toList ds p:=hA0
 rw [Tryz.params3] at hA hval
 obtain ⟨v0,v1,v2,v3,d0,d1,d2,d3,p0,p1,p2,p3,rfl,rfl,rfl,h0,h1,hn,h2⟩:=trodAll_four hA
 obtain ⟨rfl,rfl⟩:=trodVars_none hV
 obtain ⟨x,rfl,rfl,rfl,w0⟩:=qjt Tryz.underlying5 @hval h0
 have hx:0 ≤ x ∧ x ≤ 255:=by simpa [Lit.wf,IntKind.min,IntKind.max,IntKind.signed,IntKind.bits] using w0
 have hb:Rows.uptoBulk d1 ≤ 1048576 ∧ Rows.uptoBulk d3 ≤ 1048576:=by
  have h:Rows.uptoBulkAll ([DataW.lit (H:=H) (.int .u8 x),d1,d2,d3] ++ []) ≤ 1048576:=of_decide_eq_true hk
  simp only [List.append_nil,Rows.uptoBulkAll] at h
  omega
 obtain ⟨fuel1,hf1⟩:=h1
 obtain ⟨has,txt,hcs1,htl⟩:=qmx (TD:=23) (TO:=4) (TS:=9) kz kz kz kz hf1
 replace htl:txt.size ≤ 1048576:=Nat.le_trans htl hb.1
 obtain ⟨num,rfl,rfl,rfl,w2⟩:=qju Tryz.underlying21 @hval hn
 have hnum:-2147483648 ≤ num ∧ num ≤ 2147483647:=by simpa [Lit.wf,IntKind.min,IntKind.max,IntKind.signed,IntKind.bits] using w2
 obtain rfl:=qmw hcs1
 clear hf1 hcs1
 obtain ⟨fuel,hf⟩:=h2
 obtain ⟨t,ht,hsz,hi⟩:=qjn qmv fuel _ _ hf hb.2
 replace hsz:t.size ≤ 8388608:=Nat.le_trans hsz (by show 8 * Rows.uptoBulk d3 ≤ 8388608; omega)
 have hagg:=qnm rfl (TreeR.five ht)
 generalize v3.cells.toList = ct at ht hagg
 subst hagg
 clear hf
 refine (qdp x hx has txt num _ t W (fun _ _=>True) htl hnum ht hsz).mono fun e W' h=>?_
 obtain ⟨rfl,hs⟩:=h
 exact ⟨_,rfl,qkn hW' hs qlx (by rw [Tryz.params3]; decide +kernel) rfl rfl rfl (fun _ _ _=>trodAll_cons_mk (shut_bool Tryz.underlying4 _) trodAll_mk0)⟩
theorem qly (os:Os) (args:Array Value):laidMetH Tryz.prog Rows.fnFrameFetchSnapshotRequestUptoRow.laid ((World.doorLaid Tryz.prog 400 os).forCall (fun _ _=>0) ⟨#[],args,[]⟩).memory :=
 laidMetH_of_parts3 (fuel:=8) (laidMet_of_run' 8 kz kz) kz kz
set_option maxRecDepth 100000 in
theorem qlz (os:Os) (H:Type) (enc:TypeId × Value → H):∃ (w:World) (tape:Tape) (i:Input),w.os = os ∧ (w.forCall tape i).Shaped Tryz.prog ∧ i.vars = [] ∧ Input.okWide Tryz.prog (w.forCall tape i) .any w.heap.size 3 i ∧
      (((Rows.OpenSpec.upto Rows.fnFrameFetchSnapshotRequestSpec).pre enc Tryz.prog Tryz.f3 Rows.fnFrameFetchSnapshotRequestUptoRow.domain false (w.forCall tape i).memory i.args ∧ laidMetH Tryz.prog Rows.fnFrameFetchSnapshotRequestUptoRow.laid (w.forCall tape i).memory) ∧ sizedMet enc Tryz.prog Tryz.f3 (Rows.OpenSpec.upto Rows.fnFrameFetchSnapshotRequestSpec) false (w.forCall tape i).memory i.args) ∧
      ({}:Assume).holds Tryz.prog (lone (Frame.enter Tryz.prog 3 i.args .normal) [] (w.forCall tape i)):=by
  have hok:Input.okWideB Tryz.prog ((World.doorLaid Tryz.prog 400 os).forCall (fun _ _=>0) ⟨#[],#[.int .u8 0,.agg #[.bool false,.string ByteArray.empty],.int .i32 0,.agg #[.int .i64 0,.slice none 0 0,.bool false,.slice none 0 0,.slice none 0 0]],[]⟩) 3 ⟨#[],#[.int .u8 0,.agg #[.bool false,.string ByteArray.empty],.int .i32 0,.agg #[.int .i64 0,.slice none 0 0,.bool false,.slice none 0 0,.slice none 0 0]],[]⟩ = true:=by kernel_rfl
  refine ⟨World.doorLaid Tryz.prog 400 os,fun _ _=>0,⟨#[],#[.int .u8 0,.agg #[.bool false,.string ByteArray.empty],.int .i32 0,.agg #[.int .i64 0,.slice none 0 0,.bool false,.slice none 0 0,.slice none 0 0]],[]⟩,rfl,World.shaped_of_RefB kz kz,(Input.okWide_of_okWideB (base:=0) hok).1,(Input.okWide_of_okWideB hok).2,
    ⟨⟨(OpenSpec.pre_some (k:=Rows.uptoSmall) rfl _ _ _ _).2 ⟨[.lit (.int .u8 0),.agg [.lit (.bool false),.lit (.string [])],.lit (.int .i32 0),.agg [.lit (.int .i64 0),.nil,.lit (.bool false),.nil,.nil]],[],[],DataW.Whole_of_whole (fuel:=8) (x:=([.lit (.int .u8 0),.agg [.lit (.bool false),.lit (.string [])],.lit (.int .i32 0),.agg [.lit (.int .i64 0),.nil,.lit (.bool false),.nil,.nil]],[],[])) kz,rfl,kz⟩,qly os _⟩,sizedMet_of_sizedB (s:=(Rows.OpenSpec.upto Rows.fnFrameFetchSnapshotRequestSpec).bare) (fuel:=8) kz⟩,?_⟩
  simp only [Assume.holds]
  exact ⟨by simp,by simp,by simp,by simp,by simp⟩
set_option maxRecDepth 100000 in
theorem qmy (os:Os) (started:os.Started) (H:Type) (enc:TypeId × Value → H) (F:Stop.Interp) :
  ReturnsInHanded {} Tryz.checked os 3 .any (fun w args=>((Rows.OpenSpec.upto Rows.fnFrameFetchSnapshotRequestSpec).pre enc Tryz.prog Tryz.f3 Rows.fnFrameFetchSnapshotRequestUptoRow.domain false w args ∧ laidMetH Tryz.prog Rows.fnFrameFetchSnapshotRequestUptoRow.laid w) ∧ sizedMet enc Tryz.prog Tryz.f3 (Rows.OpenSpec.upto Rows.fnFrameFetchSnapshotRequestSpec) false w args) (((Rows.OpenSpec.upto Rows.fnFrameFetchSnapshotRequestSpec).at F).post enc Tryz.prog Tryz.f3 false true false false):=by
 refine returnsInHanded_of_calls qlw started kz (qlz os H enc) ?_
 intro w tape i _ _ _ hok hpre hholds
 obtain ⟨_,_,_,fn',hfn',_,_,_,_,hval⟩:=hok
 have e:fn' = Tryz.f3:=Option.some.inj (hfn'.symm.trans Tryz.func3)
 subst e
 obtain ⟨ds,gs,before,hw,hc,hkk⟩:=(OpenSpec.pre_some (k:=Rows.uptoSmall) rfl _ _ _ _).1 hpre.1.1
 have hw':=DataW.Whole.of_heap (w':=w.forCall tape i) (by rfl) hw
 refine (qkR H enc (w.forCall tape i) w.heap.size i.args ds gs before hval hw' hkk).mono fun e W' ⟨v,he,hp⟩=>?_
 subst he
 exact ChangeSpec.post_blind hp
end Go.Proofs.YtoclgihkbmaolabGreatDoor.ME