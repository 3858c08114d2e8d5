/- The texts of a claim, put together: the engine, the contracts, the law. Own work. -/
import Derived.Test.YtajibgahdkllkaaDoorRWt0P0
import Derived.Test.YtajibgahdkllkaaDoorRRows
import Derived.WalkKit
import Derived.ProofKit
import Derived.OpenShut
import Derived.JoinedCond
import Derived.WideKeyArgs
import Derived.ChangeSame
import Derived.Laws.BytesArg
import Derived.Test.YtajibgahdkllkaaDoorRProg
namespace Go.Proofs.YtajibgahdkllkaaDoorR.ME
open Go
open Go.Proofs.YtajibgahdkllkaaDoorR.Rows (uptoBulk uptoBulkAll)
set_option linter.unusedVariables false
set_option linter.unusedSimpArgs false
def Tree.i64s:Tree → Prop
 | .mk n _ _ l _=>(-9223372036854775808 ≤ n ∧ n ≤ 9223372036854775807) ∧ i64ss l
where i64ss:List Tree → Prop
 | []=>True
 | t :: r=>t.i64s ∧ i64ss r
abbrev i64ss:=Tree.i64s.i64ss
theorem qfc:∀ {l:List Tree},i64ss l → ∀ x ∈ l,x.i64s
 | [],_,x,h=>by cases h
 | t :: r,hr,x,h=>by
  rcases List.mem_cons.1 h with rfl | h
  ·exact hr.1
  exact qfc (l:=r) hr.2 x h
theorem qfT:∀ {l:List Tree},(∀ x ∈ l,x.i64s) → i64ss l
 | [],_=>trivial
 | t :: r,h=>⟨h t List.mem_cons_self,qfT (l:=r) fun x hx=>h x (List.mem_cons_of_mem _ hx)⟩
theorem qez {H:Type} (d:DataW H):1 ≤ uptoBulk d:=by cases d <;> first | (unfold uptoBulk; omega) | (rename_i l; cases l <;> (unfold uptoBulk; omega))
theorem qeA {H:Type}:∀ (l:List (DataW H)),l.length ≤ uptoBulkAll l
 | []=>Nat.zero_le _
 | d :: r=>by
  have h1:=qez d
  have h2:=qeA r
  unfold uptoBulkAll
  rw [List.length_cons]; omega
theorem qdH {H:Type}:∀ {l:List (DataW H)} {d:DataW H},d ∈ l → uptoBulk d ≤ uptoBulkAll l
 | [],d,h=>by cases h
 | a :: r,d,h=>by
  unfold uptoBulkAll
  rcases List.mem_cons.1 h with rfl | h
  ·omega
  have:=qdH h; omega
theorem qfd {α β:Type} {f:α → Option β}:∀ {l:List α} {r:List β},l.mapM f = some r → r.length = l.length ∧ ∀ (i:Nat) (a:α),l[i]? = some a → ∃ b,f a = some b ∧ r[i]? = some b
 | [],r,h=>by
  simp only [List.mapM_nil,Option.pure_def,Option.some.injEq] at h
  subst h
  exact ⟨rfl,fun i a h=>by simp at h⟩
 | x :: l,r,h=>by
  rw [List.mapM_cons] at h
  cases hx:f x with
  | none=>rw [hx] at h; cases h
  | some y =>
   rw [hx] at h
   cases hl:l.mapM f with
   | none=>rw [hl] at h; cases h
   | some ys =>
    rw [hl] at h
    obtain rfl:y :: ys = r:=Option.some.inj h
    obtain ⟨h1,h2⟩:=qfd hl
    refine ⟨by simp [h1],fun i a ha=>?_⟩
    cases i with
    | zero =>
     simp only [List.getElem?_cons_zero,Option.some.injEq] at ha
     subst ha
     exact ⟨y,hx,rfl⟩
    | succ i=>simpa using h2 i a (by simpa using ha)
theorem qdu {w:World} {a:Addr} {n:Nat} {cs:List Value} (h:w.cells? 0 a n = some cs):cs.length = n ∧ ∀ (j:Nat) (v:Value),cs[j]? = some v → w.cell? (a.add j) = some v:=by
 unfold World.cells? at h
 rw [if_pos (Nat.zero_le _)] at h
 obtain ⟨h1,h2⟩:=qfd h
 rw [List.length_range] at h1
 refine ⟨h1,fun j v hj=>?_⟩
 have hjn:j < n:=by rw [← h1]; exact (List.getElem?_eq_some_iff.1 hj).1
 obtain ⟨b,hb,hc⟩:=h2 j j (by rw [List.getElem?_range hjn])
 rw [hj] at hc
 rw [hb,Option.some.inj hc]
theorem qgm {w:World} {a:Addr} {v:Value} (h:w.cell? a = some v):a.spot = none:=by
 unfold World.cell? at h
 split at h
 ·split at h
  ·cases h
  rename_i hs; simpa using hs
 cases h
theorem qhW {w:World} {size n c:Nat} {ad:Addr} {cs:Nat → List Value} (hle:n ≤ c) (hsm:n ≤ 1099511627776) (hsz:0 < size) (h:∀ i,i < n → (cs i).length = size ∧ ∀ (j:Nat) (v:Value),(cs i)[j]? = some v → w.cell? ((ad.add (i * size)).add j) = some v):Slots w (fun _ _=>True) size (some ad) c n cs:=by
 refine ⟨hle,hsm,(fun hA=>by cases hA),fun ad' hA hn=>?_⟩
 obtain rfl:=Option.some.inj hA
 have h0:=h 0 hn
 have hp:ad.spot = none:=by
  have h1:=qgm (h0.2 0 _ (List.getElem?_eq_getElem (by omega)))
  unfold Addr.add at h1
  split at h1
  ·split at h1 <;> simp_all
  simp_all
 obtain ⟨b,o,sp⟩:=ad
 simp only at hp
 subst hp
 refine ⟨b,o,rfl,fun i hi=>⟨(h i hi).1,fun j v hj=>⟨trivial,?_⟩⟩⟩
 have:=(h i hi).2 j v hj
 rwa [qbk,qbk] at this
theorem qdU {α:Type} {R:Nat → α → Prop}:∀ (n:Nat),(∀ i,i < n → ∃ x,R i x) → ∃ l:List α,l.length = n ∧ ∀ i x,l[i]? = some x → R i x
 | 0,_=>⟨[],rfl,fun i x h=>by simp at h⟩
 | n + 1,h=>by
  obtain ⟨l,h1,h2⟩:=qdU n fun i hi=>h i (by omega)
  obtain ⟨x,hx⟩:=h n (by omega)
  refine ⟨l ++ [x],by simp [h1],fun i y hy=>?_⟩
  rcases qa8 hy with hy | ⟨rfl,rfl⟩
  ·exact h2 i y hy
  rw [h1]; exact hx
theorem qdv {α:Type} {w:World} {a:Addr} {len cap size:Nat} (R:Nat → List Value → α → Prop) (hle:len ≤ cap) (hsm:len ≤ 1099511627776) (hsz:0 < size)
  (hex:∀ i,i < len → ∃ ci:List Value,ci.length = size ∧ (∀ (j:Nat) (v:Value),ci[j]? = some v → w.cell? ((a.add (i * size)).add j) = some v) ∧ ∃ x,R i ci x) :
  ∃ l:List α,l.length = len ∧ ∃ xs:Nat → List Value,Slots w (fun _ _=>True) size (some a) cap len xs ∧ ∀ i x,l[i]? = some x → R i (xs i) x:=by
 obtain ⟨l,h1,h2⟩:=qdU (R:=fun i (z:List Value × α)=>z.1.length = size ∧ (∀ (j:Nat) (v:Value),z.1[j]? = some v → w.cell? ((a.add (i * size)).add j) = some v) ∧ R i z.1 z.2) len (fun i hi=>by
  obtain ⟨ci,g1,g2,x,g3⟩:=hex i hi
  exact ⟨(ci,x),g1,g2,g3⟩)
 have hget:∀ i,i < len → ∃ z,l[i]? = some z:=fun i hi=>⟨_,List.getElem?_eq_getElem (by omega)⟩
 have hxs:∀ i z,l[i]? = some z → ((l.map (·.1)).getD i []) = z.1:=fun i z hz=>by
  rw [List.getD_eq_getElem?_getD,List.getElem?_map,hz]; rfl
 refine ⟨l.map (·.2),by simp [h1],fun i=>(l.map (·.1)).getD i [],qhW hle hsm hsz (fun i hi=>?_),fun i x hx=>?_⟩
 ·obtain ⟨z,hz⟩:=hget i hi
  rw [hxs i z hz]
  exact ⟨(h2 i z hz).1,(h2 i z hz).2.1⟩
 rw [List.getElem?_map] at hx
 cases hz:l[i]? with
 | none=>rw [hz] at hx; cases hx
 | some z =>
  rw [hz] at hx
  simp only [Option.map_some,Option.some.injEq] at hx
  subst hx
  dsimp only
  rw [hxs i z hz]
  exact (h2 i z hz).2.2
def qdI (P:Program) (t:TypeId):Option (List (TypeId × Nat)) :=
 match P.underlying t with
 | some (.struct fs)=>some (fs.toList.map fun f=>(f.type,f.offset))
 | _=>none
theorem qdV {P:Program} {t:TypeId} {l:List (TypeId × Nat)} (h:qdI P t = some l):∃ fs:Array Field,P.underlying t = some (.struct fs) ∧ fs.size = l.length ∧ ∀ (i:Nat) ty off,l[i]? = some (ty,off) → ∃ f,fs[i]? = some f ∧ f.type = ty ∧ f.offset = off:=by
 unfold qdI at h
 split at h
 ·rename_i fs hfs
  simp only [Option.some.injEq] at h
  subst h
  refine ⟨fs,hfs,by simp,fun i ty off hi=>?_⟩
  rw [List.getElem?_map] at hi
  cases hf:fs.toList[i]? with
  | none=>rw [hf] at hi; cases hi
  | some f =>
   rw [hf] at hi
   simp only [Option.map_some,Option.some.injEq,Prod.mk.injEq] at hi
   exact ⟨f,by simpa using hf,hi.1,hi.2⟩
 cases h
structure TreeTys (P:Program) (T TL TU TG TB TI TO TK T8:TypeId):Prop where
 tree:qdI P T = some [(TI,0),(TB,1),(TO,2),(TL,3),(TU,4)]
 tag:qdI P TG = some [(TK,0),(TB,1)]
 trees:P.underlying TL = some (.slice T)
 tags:P.underlying TU = some (.slice TG)
 bytes:P.underlying TB = some (.slice T8)
 int:P.underlying TI = some (.int .i64)
 bool:P.underlying TO = some .bool
 key:P.underlying TK = some (.int .u32)
 byte:P.underlying T8 = some (.int .u8)
 cells:(P.cellsOf T,P.cellsOf TL,P.cellsOf TU,P.cellsOf TG,P.cellsOf TB,P.cellsOf TI,P.cellsOf TO,P.cellsOf TK,P.cellsOf T8) = (5,1,1,2,1,1,1,1,1)
section
variable {H:Type} {enc:TypeId × Value → H} {P:Program} {W:World} {sp:Nat → Bool} {hd:Bool} {T TL TU TG TB TI TO TK T8:TypeId}
theorem qeB {α β:Type} {x:Option α} {f:α → Option β} {l:List β} {i:Nat} (h:x.bind f = l[i]?) (hi:i < l.length):∃ a b,x = some a ∧ f a = some b ∧ l[i]? = some b:=by
 rw [List.getElem?_eq_getElem hi] at h
 obtain ⟨a,ha,hb⟩:=Option.bind_eq_some_iff.1 h
 exact ⟨a,_,ha,hb,List.getElem?_eq_getElem hi⟩
theorem qdw {elems spare:List (DataW H)} {n:Nat} (h:uptoBulk (.slice elems spare) ≤ n):elems.length ≤ n ∧ ∀ d ∈ elems,uptoBulk d ≤ n:=by
 unfold uptoBulk at h
 have h1:=qeA elems
 exact ⟨by omega,fun d hd=>by have:=qdH hd; omega⟩
theorem qfU {parts:List (DataW H)} {n:Nat} (h:uptoBulk (.agg parts) ≤ n):∀ d ∈ parts,uptoBulk d ≤ n:=by
 unfold uptoBulk at h
 exact fun d hd=>by have:=qdH hd; omega
theorem qfe {fuel:Nat} {cs:List Value} {x:DataW H × List MemPlace} (hT:TreeTys P T TL TU TG TB TI TO TK T8) (h:DataW.trod enc P W 0 sp hd fuel TB cs = some x) (hb:uptoBulk x.1 ≤ 1048576) :
  ∃ A c s,cs = [.slice A (s:Bs).length c] ∧ Octs W (fun _ _=>True) A c s ∧ s.length ≤ uptoBulk x.1:=by
 have hc:=hT.cells
 simp only [Prod.mk.injEq] at hc
 rcases DataW.trod_slice hT.bytes h with ⟨rfl,rfl⟩ | ⟨a,len,cap,elems,rest,n,_,rfl,rfl,_,hle,_,hlen,he,_⟩
 ·exact ⟨none,0,[],rfl,Octs.nil _ _,Nat.zero_le _⟩
 have hlb:=qeA (elems.map (·.1))
 rw [List.length_map] at hlb
 have hbl:=qdw hb
 simp only [List.length_map] at hbl
 obtain ⟨l,hl,xs,h1,h2⟩:=qdv (w:=W) (a:=a) (len:=len) (cap:=cap) (size:=1) (fun _ ci (q:UInt8)=>ci = [qdf q]) hle (by omega) (by omega) (fun i hi=>by
  obtain ⟨ci,y,g1,g2,g3⟩:=qeB (he i hi) (by omega)
  obtain ⟨g4,g5⟩:=qdu g1
  rw [hc.2.2.2.2.2.2.2.2] at g4 g5
  refine ⟨ci,g4,g5,?_⟩
  obtain ⟨v,rfl,_,hw⟩:=DataW.trod_int hT.byte g2
  have hx:0 ≤ v ∧ v ≤ 255:=by simpa [Lit.wf,IntKind.min,IntKind.max,IntKind.signed,IntKind.bits] using hw
  refine ⟨UInt8.ofNat v.toNat,?_⟩
  unfold qdf
  rw [UInt8.toNat_ofNat']
  congr 2
  omega)
 refine ⟨some a,cap,l,by rw [hl],?_,by rw [hl,← hlen]; dsimp only; unfold uptoBulk; omega⟩
 unfold Octs
 rw [hl]
 refine ⟨h1.le,h1.small,h1.none_,fun ad hA hn=>?_⟩
 obtain ⟨b,o,e1,e2⟩:=h1.some_ ad hA hn
 refine ⟨b,o,e1,fun i hi=>?_⟩
 have hli:l[i]? = some (l.getD i 0):=by
  rw [List.getD_eq_getElem?_getD,List.getElem?_eq_getElem (by omega)]; rfl
 have:=h2 i _ hli
 rw [← this]
 exact e2 i hi
theorem qc7 {n:Nat} {fs:Array Field} {xs:List (DataW H × List MemPlace)} {cs:List Value} {l:List (TypeId × Nat)} (hx:∀ (i:Nat) (f:Field),fs[i]? = some f → DataW.trod enc P W 0 sp hd n f.type ((cs.drop f.offset).take (P.cellsOf f.type)) = xs[i]?)
  (hl:∀ (i:Nat) ty off,l[i]? = some (ty,off) → ∃ f,fs[i]? = some f ∧ f.type = ty ∧ f.offset = off) {i:Nat} {ty off:Nat} (hi:l[i]? = some (ty,off)) (h1:P.cellsOf ty = 1) (hxl:i < xs.length) {c:Value} (hc:cs[off]? = some c) :
  ∃ y,xs[i]? = some y ∧ DataW.trod enc P W 0 sp hd n ty [c] = some y:=by
 obtain ⟨f,hf,rfl,rfl⟩:=hl i _ _ hi
 have:=hx i f hf
 rw [h1] at this
 refine ⟨xs[i],List.getElem?_eq_getElem hxl,?_⟩
 rw [List.getElem?_eq_getElem hxl] at this
 have e:(cs.drop f.offset).take 1 = [c]:=by
  rw [List.take_one,List.head?_drop,hc]; rfl
 rw [e] at this
 exact this
theorem qfV:∀ (l:List (Int × Bs)) {elems:List (DataW H × List MemPlace)},l.length = elems.length → (∀ (i:Nat) (x:Int × Bs) (y:DataW H × List MemPlace),l[i]? = some x → elems[i]? = some y → 1 + (uv x.1.toNat).length + x.2.length ≤ 8 * uptoBulk y.1) → usz l ≤ 8 * uptoBulkAll (elems.map (·.1))
 | [],_,_,_=>Nat.zero_le _
 | x :: r,[],h,_=>by cases h
 | x :: r,y :: es,h,hp=>by
  have h1:=qfV r (elems:=es) (by simpa using h) fun i x' y' hx hy=>hp (i + 1) x' y' (by simpa using hx) (by simpa using hy)
  have h2:=hp 0 x y rfl rfl
  simp only [usz,List.map_cons,uptoBulkAll]
  omega
theorem qek:∀ (l:List Tree) {elems:List (DataW H × List MemPlace)},l.length = elems.length → (∀ (i:Nat) (x:Tree) (y:DataW H × List MemPlace),l[i]? = some x → elems[i]? = some y → x.size ≤ 8 * uptoBulk y.1) → sizes l ≤ 8 * uptoBulkAll (elems.map (·.1))
 | [],_,_,_=>Nat.zero_le _
 | x :: r,[],h,_=>by cases h
 | x :: r,y :: es,h,hp=>by
  have h1:=qek r (elems:=es) (by simpa using h) fun i x' y' hx hy=>hp (i + 1) x' y' (by simpa using hx) (by simpa using hy)
  have h2:=hp 0 x y rfl rfl
  show x.size + sizes r ≤ _
  simp only [List.map_cons,uptoBulkAll]
  omega
theorem qhf {y0 y1 y2 y3 y4:DataW H × List MemPlace} {xs:List (DataW H × List MemPlace)} (h:xs.length = 5) (h0:xs[0]? = some y0) (h1:xs[1]? = some y1) (h2:xs[2]? = some y2) (h3:xs[3]? = some y3) (h4:xs[4]? = some y4):uptoBulk (.agg (xs.map (·.1))) = uptoBulk y0.1 + uptoBulk y1.1 + uptoBulk y2.1 + uptoBulk y3.1 + uptoBulk y4.1 + 1:=by
 match xs,h with
 | [a,b,c,d,e],_ =>
  simp only [List.getElem?_cons_zero,List.getElem?_cons_succ,Option.some.injEq] at h0 h1 h2 h3 h4
  subst h0; subst h1; subst h2; subst h3; subst h4
  have e:uptoBulk (.agg [a.1,b.1,c.1,d.1,e.1]) = uptoBulkAll [a.1,b.1,c.1,d.1,e.1] + 1:=by rw [uptoBulk]
  simp only [List.map_cons,List.map_nil]
  rw [e]
  simp only [uptoBulkAll]
  omega
theorem qhg {fuel:Nat} {cs:List Value} {x:DataW H × List MemPlace} (hT:TreeTys P T TL TU TG TB TI TO TK T8) (h:DataW.trod enc P W 0 sp hd fuel TU cs = some x) (hb:uptoBulk x.1 ≤ 1048576) :
  ∃ A c u,cs = [.slice A (u:List (Int × Bs)).length c] ∧ TagsR W (fun _ _=>True) A c u ∧ usz u ≤ 8 * uptoBulk x.1:=by
 have hc:=hT.cells
 simp only [Prod.mk.injEq] at hc
 rcases DataW.trod_slice hT.tags h with ⟨rfl,rfl⟩ | ⟨a,len,cap,elems,rest,n,_,rfl,rfl,_,hle,_,hlen,he,_⟩
 ·exact ⟨none,0,[],rfl,TagsR.nil _ _,Nat.zero_le _⟩
 have hbl:=qdw hb
 simp only [List.length_map] at hbl
 obtain ⟨l,hl,xs,h1,h2⟩:=qdv (w:=W) (a:=a) (len:=len) (cap:=cap) (size:=2) (fun i ci (q:Int × Bs)=>((∃ A' c',ci = [.int .u32 q.1,.slice A' q.2.length c'] ∧ Octs W (fun _ _=>True) A' c' q.2) ∧ 0 ≤ q.1 ∧ q.1 < 4294967296) ∧ ∀ y,elems[i]? = some y → 1 + (uv q.1.toNat).length + q.2.length ≤ 8 * uptoBulk y.1) hle (by omega) (by omega) (fun i hi=>by
  obtain ⟨ci,y,g1,g2,g3⟩:=qeB (he i hi) (by omega)
  obtain ⟨g4,g5⟩:=qdu g1
  rw [hc.2.2.2.1] at g4 g5
  refine ⟨ci,g4,g5,?_⟩
  obtain ⟨fs,hfs,hsz,hl⟩:=qdV hT.tag
  obtain ⟨xs,m,_,rfl,_,hxl,hx⟩:=DataW.trod_struct hfs g2
  rw [hsz] at hxl
  have hxl':xs.length = 2:=hxl
  match ci,g4 with
  | [c0,c1],_ =>
   obtain ⟨y0,_,k0⟩:=qc7 hx hl (i:=0) rfl hc.2.2.2.2.2.2.2.1 (by omega) (c:=c0) rfl
   obtain ⟨y1,e1,k1⟩:=qc7 hx hl (i:=1) rfl hc.2.2.2.2.1 (by omega) (c:=c1) rfl
   obtain ⟨v,hv,_,hw⟩:=DataW.trod_int hT.key k0
   have hx:0 ≤ v ∧ v ≤ 4294967295:=by simpa [Lit.wf,IntKind.min,IntKind.max,IntKind.signed,IntKind.bits] using hw
   have hby:uptoBulk y1.1 ≤ 1048576:=by
    have hm:DataW.agg (xs.map (·.1)) ∈ elems.map (·.1):=by
     have:=List.mem_of_getElem? g3
     exact List.mem_map.2 ⟨_,this,rfl⟩
    exact qfU (hbl.2 _ hm) _ (List.mem_map.2 ⟨_,List.mem_of_getElem? e1,rfl⟩)
   obtain ⟨A',c',s,hs,ho,hsl⟩:=qfe hT k1 hby
   simp only [List.cons.injEq,and_true] at hv hs
   subst hv; subst hs
   refine ⟨(v,s),⟨⟨A',c',rfl,ho⟩,by dsimp only; omega,by dsimp only; omega⟩,fun y hy=>?_⟩
   rw [g3] at hy
   obtain rfl:=Option.some.inj hy
   have h5:=qeW v.toNat 5 (by omega) (by omega)
   have h6:uptoBulk y1.1 ≤ uptoBulkAll (xs.map (·.1)):=qdH (List.mem_map.2 ⟨_,List.mem_of_getElem? e1,rfl⟩)
   dsimp only
   unfold uptoBulk
   omega)
 refine ⟨some a,cap,l,by rw [hl],⟨xs,by rw [hl]; exact h1,fun i k s hi=>(h2 i (k,s) hi).1⟩,?_⟩
 have:=qfV l (elems:=elems) (by rw [hl,hlen]) (fun i x y hx hy=>(h2 i x hx).2 y hy)
 dsimp only
 unfold uptoBulk
 omega
theorem qgn (hT:TreeTys P T TL TU TG TB TI TO TK T8):∀ (fuel:Nat) (cs:List Value) (x:DataW H × List MemPlace),DataW.trod enc P W 0 sp hd fuel T cs = some x → uptoBulk x.1 ≤ 1048576 → ∃ t,TreeR W (fun _ _=>True) cs t ∧ t.size ≤ 8 * uptoBulk x.1 ∧ t.i64s:=by
 intro fuel
 induction fuel using Nat.strongRecOn with
 | _ fuel ih =>
 intro cs x h hb
 have hc:=hT.cells
 simp only [Prod.mk.injEq] at hc
 obtain ⟨fs,hfs,hsz,hl⟩:=qdV hT.tree
 obtain ⟨xs,m,rfl,rfl,hcl,hxl,hx⟩:=DataW.trod_struct hfs h
 rw [hsz] at hxl
 have hxl':xs.length = 5:=hxl
 rw [hc.1] at hcl
 have hbe:∀ {i:Nat} {y:DataW H × List MemPlace},xs[i]? = some y → uptoBulk y.1 ≤ 1048576:=fun e=>qfU hb _ (List.mem_map.2 ⟨_,List.mem_of_getElem? e,rfl⟩)
 match cs,hcl with
 | [c0,c1,c2,c3,c4],_ =>
  obtain ⟨y0,e0,k0⟩:=qc7 hx hl (i:=0) rfl hc.2.2.2.2.2.1 (by omega) (c:=c0) rfl
  obtain ⟨y1,e1,k1⟩:=qc7 hx hl (i:=1) rfl hc.2.2.2.2.1 (by omega) (c:=c1) rfl
  obtain ⟨y2,e2,k2⟩:=qc7 hx hl (i:=2) rfl hc.2.2.2.2.2.2.1 (by omega) (c:=c2) rfl
  obtain ⟨y3,e3,k3⟩:=qc7 hx hl (i:=3) rfl hc.2.1 (by omega) (c:=c3) rfl
  obtain ⟨y4,e4,k4⟩:=qc7 hx hl (i:=4) rfl hc.2.2.1 (by omega) (c:=c4) rfl
  obtain ⟨v,hv,_,hw0⟩:=DataW.trod_int hT.int k0
  have hx0:-9223372036854775808 ≤ v ∧ v ≤ 9223372036854775807:=by simpa [Lit.wf,IntKind.min,IntKind.max,IntKind.signed,IntKind.bits] using hw0
  obtain ⟨A1,d1,s,hs,ho,hz1⟩:=qfe hT k1 (hbe e1)
  obtain ⟨b,hbo,_⟩:=DataW.trod_bool hT.bool k2
  obtain ⟨A3,d3,u,hu,hur,hz3⟩:=qhg hT k4 (hbe e4)
  have hll:∃ A2 d2 l xs2,[c3] = [.slice A2 (l:List Tree).length d2] ∧ Slots W (fun _ _=>True) 5 A2 d2 l.length xs2 ∧ (∀ i x,l[i]? = some x → TreeR W (fun _ _=>True) (xs2 i) x) ∧ sizes l ≤ 8 * uptoBulk y3.1 ∧ i64ss l:=by
   rcases DataW.trod_slice hT.trees k3 with ⟨e,_⟩ | ⟨a,len,cap,elems,rest,n,rfl,e,rfl,_,hle,_,hlen,he,_⟩
   ·exact ⟨none,0,[],fun _=>[],e,Slots.nil _ _ _ _,(fun i x h=>by simp at h),Nat.zero_le _,trivial⟩
   have hbl:=qdw (hbe e3)
   simp only [List.length_map] at hbl
   obtain ⟨l,hl,xs2,h1,h2⟩:=qdv (w:=W) (a:=a) (len:=len) (cap:=cap) (size:=5) (fun i ci (q:Tree)=>(TreeR W (fun _ _=>True) ci q ∧ q.i64s) ∧ ∀ y,elems[i]? = some y → q.size ≤ 8 * uptoBulk y.1) hle (by omega) (by omega) (fun i hi=>by
    obtain ⟨ci,y,g1,g2,g3⟩:=qeB (he i hi) (by omega)
    obtain ⟨g4,g5⟩:=qdu g1
    rw [hc.1] at g4 g5
    obtain ⟨q,q1,q2,q3⟩:=ih n (by omega) ci y g2 (hbl.2 _ (List.mem_map.2 ⟨_,List.mem_of_getElem? g3,rfl⟩))
    exact ⟨ci,g4,g5,q,⟨q1,q3⟩,fun y' hy=>by
     rw [g3] at hy
     obtain rfl:=Option.some.inj hy
     exact q2⟩)
   refine ⟨some a,cap,l,xs2,by rw [e,hl],by rw [hl]; exact h1,fun i x hx=>(h2 i x hx).1.1,?_,qfT fun x hx=>by
    obtain ⟨i,hi,rfl⟩:=List.getElem_of_mem hx
    exact (h2 i _ (List.getElem?_eq_getElem hi)).1.2⟩
   have:=qek l (elems:=elems) (by rw [hl,hlen]) (fun i x y hx hy=>(h2 i x hx).2 y hy)
   dsimp only
   unfold uptoBulk
   omega
  obtain ⟨A2,d2,l,xs2,hl2,hsl,hxl2,hz2,hi2⟩:=hll
  simp only [List.cons.injEq,and_true] at hv hs hbo hl2 hu
  subst hv; subst hs; subst hbo; subst hl2; subst hu
  refine ⟨_,.mk xs2 ho hsl hxl2 hur,?_,hx0,hi2⟩
  have h5:=qhf hxl' e0 e1 e2 e3 e4
  have p0:=qez y0.1
  have p1:=qez y2.1
  dsimp only at h5 ⊢
  rw [Tree.size_mk,h5]
  omega
end
section
variable {H:Type} {enc:TypeId × Value → H} {P:Program}
open Go.ChangeShapes Go.WideShapes Go.ChangeAt Go.RowKit
theorem Step.same {W W':World} (h:Step W W' Nil) {b:Nat} (hb:b < W.heap.size):W'.heap[b]? = W.heap[b]?:=(h.keeps b hb).1 fun _ hn=>hn
theorem Step.sameAt {W W':World} (h:Step W W' Nil) {p:MemPlace} (hp:p.block < W.heap.size):W.sameAt W' p:=by
 cases p with
 | cell b o=>exact World.cell_of_heap (h.same hp)
 | map b=>exact h.same hp
theorem Step.keptBut {W W':World} (h:Step W W' Nil) (may:MemPlace → Prop):W.keptBut W' may:=by
 refine ⟨h.os,h.output,fun i hi=>?_⟩
 rw [h.same hi]
 cases hx:W.heap[i]? with
 | none=>rfl
 | some x =>
  cases x with
  | cells c t f=>exact ⟨rfl,rfl,rfl,fun _ _=>rfl⟩
  | map es clock=>exact .inr ⟨rfl,rfl⟩
  | _=>rfl
theorem qdj (hl:laidOutB P = true) {W W':World} (hs:Step W W' Nil):∀ {ts:List TypeId} {vs:List Value} {ds:List (DataW H)} {ps:List MemPlace},(∀ t ∈ ts,P.readableRec t = true ∧ t < P.types.size) → DataW.TrodAll enc P W 0 (fun _=>true) true ts vs ds ps → (∀ p ∈ ps,p.block < W.heap.size) →
  DataW.TrodAll enc P W' 0 (fun b=>decide (b < W.heap.size)) true ts vs ds ps
 | [],vs,ds,ps,_,h,_=>by
  obtain ⟨rfl,rfl,rfl⟩:=trodAll_nil h
  exact rfl
 | t :: ts,vs,ds,ps,ht,h,hp=>by
  obtain ⟨v,vs',d,ds',p,q,rfl,rfl,rfl,h1,h2⟩:=trodAll_cons h
  have h0:=ht t (List.mem_cons_self ..)
  refine ⟨p,q,?_,qdj hl hs (fun t' h'=>ht t' (List.mem_cons_of_mem _ h')) h2 (fun x hx=>hp x (List.mem_append_right _ hx)),rfl⟩
  exact Go.WideElems.Trod_stays hl h0.1 h0.2 h1 (fun x hx=>hs.sameAt (hp x (List.mem_append_left _ hx))) (fun x hx=>decide_eq_true (hp x (List.mem_append_left _ hx)))
theorem qhh {f:Func} {s:ChangeSpec} {W W':World} {args:Array Value} {v:Value} {ds gs:List (DataW H)} {before:List MemPlace} {handsOn:Bool}
  (hW:DataW.Whole enc P f.params.toList s.vars false W args.toList ds gs before) (hs:Step W W' Nil) (hl:laidOutB P = true) (hpar:∀ t ∈ f.params.toList,P.readableRec t = true ∧ t < P.types.size)
  (hv:s.vars = []) (hargs:(s.fn H (ds ++ gs)).args = ds) (hvars:(s.fn H (ds ++ gs)).vars = [])
  (hres:∀ (b:Nat) (sp:Nat → Bool) (hd:Bool),DataW.TrodAll enc P W' b sp hd f.resultTypes.toList (v.resultList f.resultTypes.size) (s.fn H (ds ++ gs)).results []) :
  s.post enc P f false true handsOn false W args v W':=by
 have hlt:∀ p ∈ before,p.block < W.heap.size:=fun p hp=>hW.lt p hp
 obtain ⟨p,q,hA,hV,rfl,_,_⟩:=id hW
 rw [hv] at hV
 obtain ⟨rfl,rfl⟩:=trodVars_none hV
 refine ⟨ds,[],_,[],p,[],hW,hres _ _ _,?_,?_,hs.keptBut _,fun h=>by cases h⟩
 ·rw [hargs]
  exact qdj hl hs hpar hA (fun x hx=>hlt x (List.mem_append_left _ hx))
 rw [hvars,hv]; exact rfl
end
end Go.Proofs.YtajibgahdkllkaaDoorR.ME
namespace Go.Proofs.YtajibgahdkllkaaDoorR.ME
open Go
open Go.RowKit
set_option linter.unusedVariables false
set_option linter.unusedSimpArgs false
set_option maxRecDepth 20000
def bs (s:Bs):ByteArray:=⟨s.toArray⟩
theorem qjP (s:Bs):sb (bs s) = s:=by simp [sb,bs]
theorem qiL (s:Bs):(bs s).size = s.length:=by simp [bs,ByteArray.size]
def qbP (t:Tree):Bs:=if t.null then [] else t.S
section
variable {P:Program} {ops:Array Oper} {Q:Exit → Act → World → Prop} {n:Nat} {tb:Tb} {env:Env} {rs:List Rw} {w0:World} {M:Nat → Nat → Prop} {a:Act} {w:World}
def qhX (tb:Tb) (env:Env) (ops:Array Oper) (n i:Nat):Option (TypeId × TypeId × Value × Nat) :=
 match opAt env ops n i with
 | some (.convert src dst x,d)=>match opd env x with
  | some (.v v)=>some (src,dst,v,d)
  | _=>none
 | _=>none
theorem qff {i d:Nat} {src dst e c:Nat} {A:Option Addr} {s:Bs} {F:Nat → Nat → Prop} {N:Act → World → Prop} (hE:EnvOk n tb env a) (h:qhX tb env ops n i = some (src,dst,.slice A s.length c,d)) (hs:P.underlying src = some (.slice e)) (he:P.underlying e = some (.int .u8)) (hd:P.underlying dst = some .string)
  (ho:Octs w F A c s) (K:∀ a',EnvOk n tb ((d,.v (.string (bs s))) :: env) a' → N a' w):wpOp P ops Q i N a w:=by
 unfold qhX at h
 split at h
 ·rename_i src' dst' x d' hop
  split at h
  ·rename_i v hx
   simp only [Option.some.injEq,Prod.mk.injEq] at h
   obtain ⟨rfl,rfl,rfl,rfl⟩:=h
   have hdn:=(qbp hE hop).choose_spec.2.2.2.1
   have hrun:(convert src' dst' (.slice A s.length c)).run P w = .ok (.string (bs s)) w:=by
    have hsrc:=ho.src
    cases A with
    | none =>
     have h0:s = []:=List.eq_nil_of_length_eq_zero (ho.none_ rfl).1
     subst h0
     exact run_convert_bytes_nil w src' e hs he _ _ dst' hd
    | some ad =>
     have hl:(loadCells ad s.length).run P w = .ok ((s.map fun b=>((b.toNat:Nat):Int)).map (Value.int .u8)).toArray w:=by
      have:=run_loadCells_list (P:=P) w ad (bc s) (fun j v hj=>hsrc.cells ad rfl j v hj)
      rw [show (bc s).length = s.length from by simp [bc]] at this
      rw [this]
      simp [bc]
     rw [run_convert_bytes_string w src' dst' e _ s.length c hs he hd,run_bytesToString w _ s.length c _ hl,foldl_push_bytes]
     congr 2
     simp only [bs,ByteArray.empty,ByteArray.emptyWithCapacity]
     have e3:(s.map fun b=>((b.toNat:Nat):Int)).map (fun n=>UInt8.ofNat n.toNat) = s:=by
      rw [List.map_map]
      conv=>rhs; rw [← List.map_id s]
      exact List.map_congr_left fun b _=>by simp
     rw [e3]
     simp
     rfl
   refine qa9 hE hop (v:=.string (bs s)) (w':=w) ?_ (K _ (hE.put hdn (.v _) trivial))
   intro o ho'
   unfold execOp
   rw [ho']
   simp only [(qaV hE hx).1,SV.val,Sem.run_bind,hrun,Result.andThen_ok,Sem.run_pure]
  cases h
 cases h
end
theorem uv0:uv 0 = [0]:=by rw [uv]; rfl
theorem qiM {v:Int} {d:Nat} {l:List Fld} {t:Tree} {i:Nat} {k x1 x2 x3 x4 x5 x6:Int} {s:List Fld} (h:l[i]? = some (.mk k x1 x2 x3 x4 x5 x6 s)) (hk:k = 8 ∨ k = 9) :
  qbP ((fitT v (d + 1) l t).at_ i) = (if Fld.nul (.mk k x1 x2 x3 x4 x5 x6 s) v (t.at_ i) = true then [] else qax (t.at_ i).S) ∧ ((fitT v (d + 1) l t).at_ i).null = Fld.nul (.mk k x1 x2 x3 x4 x5 x6 s) v (t.at_ i):=by
 rw [qg6 h]
 have e1:k ≠ 11:=by omega
 have e:qcb (fitT v d) v (.mk k x1 x2 x3 x4 x5 x6 s) (t.at_ i) = .mk 0 (qax (t.at_ i).S) (Fld.nul (.mk k x1 x2 x3 x4 x5 x6 s) v (t.at_ i)) [] []:=by
  simp [qcb,qc3,Fld.kind,e1,hk]
 rw [e]
 exact ⟨rfl,rfl⟩
def qa5 (w:World) (F:Nat → Nat → Prop) (D:DV):Prop:=((D.f 0).s.size ≤ 1000000) ∧ (True) ∧ (Octs w F (D.f 2).A (D.f 2).c (D.f 2).o ∧ (D.f 2).o.length ≤ 1000000) ∧ True
def qaj (v:Int) (T:Tree):Bs:=((be 2 (T.at_ 0).S.length ++ (T.at_ 0).S)) ++ ((be 8 ((T.at_ 1).N)) ++ ((if (decide (v ≥ 1)) = true then (be 4 (qbP (T.at_ 2)).length ++ (qbP (T.at_ 2))) else []) ++ ([])))
theorem qiN {v:Int} {d:Nat} {l:List Fld} {t:Tree} {i:Nat} {k x1 x2 x3 x4 x5 x6:Int} {s:List Fld} (h:l[i]? = some (.mk k x1 x2 x3 x4 x5 x6 s)) (hk:k = 8 ∨ k = 9) :
  ((fitT v (d + 1) l t).at_ i).S = qax (t.at_ i).S:=by
 rw [qg6 h]
 have e1:k ≠ 11:=by omega
 have e:qcb (fitT v d) v (.mk k x1 x2 x3 x4 x5 x6 s) (t.at_ i) = .mk 0 (qax (t.at_ i).S) (Fld.nul (.mk k x1 x2 x3 x4 x5 x6 s) v (t.at_ i)) [] []:=by
  simp [qcb,qc3,Fld.kind,e1,hk]
 rw [e]
 rfl
theorem nul_no {k x1 x2 x4 x5 x6:Int} {s:List Fld} {v:Int} {t:Tree}:Fld.nul (.mk k x1 x2 (-1) x4 x5 x6 s) v t = false:=by
 cases t
 simp [Fld.nul]
theorem qiO {x:Int}:be 8 (((IntKind.u64.wrap x).toNat:Nat):Int) = be 8 x:=by
 rw [show (((IntKind.u64.wrap x).toNat:Nat):Int) = IntKind.u64.wrap x by rw [qaF]; omega,qhK]
theorem qjQ {x:Int}:by8 (if decide (x % 2 = 1) = true then 1 else 0) = by8 (x % 2):=by
 rcases Int.emod_two_eq x with h | h <;> simp [h]
theorem qhY {v:Int} {d:Nat} {l:List Fld} {t:Tree} {i:Nat} {k x1 x2 x3 x4 x5 x6:Int} {s:List Fld} (h:l[i]? = some (.mk k x1 x2 x3 x4 x5 x6 s)) (hk:k = 8 ∨ k = 9):(qbP ((fitT v (d + 1) l t).at_ i)).length ≤ 32767:=by
 rw [(qiM h hk).1]
 split
 ·exact Nat.zero_le _
 exact Nat.le_trans (qa4 _) (by decide)
def Tree.ranged:Tree → Prop
 | .mk _ _ _ l u=>(∀ x ∈ u,0 ≤ x.1 ∧ x.1 < 4294967296) ∧ rangeds l
where rangeds:List Tree → Prop
 | []=>True
 | t :: r=>t.ranged ∧ rangeds r
abbrev rangeds:=Tree.ranged.rangeds
theorem qdW:∀ {l:List Tree},rangeds l → ∀ x ∈ l,x.ranged
 | [],_,x,h=>by cases h
 | t :: r,hr,x,h=>by
  rcases List.mem_cons.1 h with rfl | h
  ·exact hr.1
  exact qdW (l:=r) hr.2 x h
theorem qcW:∀ {l:List Tree},(∀ x ∈ l,x.ranged) → rangeds l
 | [],_=>trivial
 | t :: r,h=>⟨h t (List.mem_cons_self ..),qcW (l:=r) fun x hx=>h x (List.mem_cons_of_mem _ hx)⟩
theorem qdX:Tree.zero.ranged:=⟨fun x h=>(by cases h),trivial⟩
theorem qhZ {t:Tree} (h:t.ranged):∀ x ∈ t.U,0 ≤ x.1 ∧ x.1 < 4294967296:=by cases t; exact h.1
theorem qfW {t:Tree} (h:t.ranged):∀ x ∈ t.L,x.ranged:=by cases t; exact qdW h.2
theorem qhi {t:Tree} (h:t.ranged) (i:Nat):(t.at_ i).ranged:=by
 unfold Tree.at_
 rw [List.getD_eq_getElem?_getD]
 cases hx:t.L[i]? with
 | none=>exact qdX
 | some x=>exact qfW h x (List.mem_of_getElem? hx)
theorem TreeR.ranged {w:World} {F:Nat → Nat → Prop} {cs:List Value} {t:Tree} (h:TreeR w F cs t):t.ranged:=by
 induction h with
 | @mk n s b l u A1 A2 A3 c1 c2 c3 cs h1 h2 h3 h4 ih =>
  refine ⟨fun x hx=>qgf h4 x hx,qcW fun x hx=>?_⟩
  obtain ⟨i,hi⟩:=List.mem_iff_getElem?.1 hx
  exact ih i x hi
theorem qgo (v:Int):∀ (d:Nat) (l:List Fld) (t:Tree),t.ranged → (fitT v d l t).ranged:=by
 have core:∀ (W:Fld → Tree → Tree) (l:List Fld) (t:Tree),t.ranged → (∀ f x,x.ranged → (W f x).ranged) → (fitW W l t).ranged:=by
  intro W l t ht hW
  refine ⟨fun x hx=>?_,qcW ?_⟩
  ·obtain ⟨y,hy,rfl⟩:=List.mem_map.1 hx
   exact qhZ ht y (qe6 y hy)
  have:∀ (l:List Fld) (i:Nat),∀ x ∈ qfl W l t i,x.ranged:=by
   intro l
   induction l with
   | nil=>intro i x hx; cases hx
   | cons f r ih =>
    intro i x hx
    rcases List.mem_cons.1 hx with rfl | hx
    ·exact hW f _ (qhi ht i)
    exact ih (i + 1) x hx
  exact this l 0
 have f0:∀ (p:List Fld → Tree → Tree),(∀ l x,x.ranged → (p l x).ranged) → ∀ (f:Fld) (b:Bool) (x:Tree),x.ranged → (qc3 p f b x).ranged:=by
  intro p hp f b x hx
  unfold qc3
  split
  ·exact ⟨fun x h=>(by cases h),trivial⟩
  split
  ·have:=hp f.sub x hx
   generalize p f.sub x = y at this
   cases y; exact this
  exact ⟨fun x h=>(by cases h),trivial⟩
 intro d
 induction d with
 | zero=>intro l t ht; exact core _ l t ht fun _ _ _=>qdX
 | succ d ih =>
  intro l t ht
  refine core _ l t ht fun f x hx=>?_
  unfold qcb
  split
  ·refine ⟨fun x h=>(by cases h),qcW fun y hy=>?_⟩
   obtain ⟨z,hz,rfl⟩:=List.mem_map.1 hy
   exact f0 _ ih _ _ _ (qfW hx z (by unfold qak at hz; exact List.mem_of_mem_take hz))
  exact f0 _ ih _ _ _ hx
theorem sHas (k x1 x2 x3 x4 x5 x6:Int) (fs:List Fld) (AF:Option Addr) (cF:Nat) (v:Int) (w:World) :
  Calls Tryd.prog 49 #[.agg #[.int .i64 k,.int .i64 x1,.int .i64 x2,.int .i64 x3,.int .i64 x4,.int .i64 x5,.int .i64 x6,.slice AF fs.length cF],.int .i64 v] w (qbD w (.bool (Fld.has (Fld.mk k x1 x2 x3 x4 x5 x6 fs) v))):=by
 refine enter (n:=20) Tryd.func49 rfl Tryd.ntmps49 kz fun a hE=>?_
 have hW:=WOk.start w Nil
 refine qad [0,1] kz ?_
 refine qam (qaY hW hE (d:=2) (cs:=[.int .i64 k,.int .i64 x1,.int .i64 x2,.int .i64 x3,.int .i64 x4,.int .i64 x5,.int .i64 x6,.slice AF fs.length cF]) kz fun b1 a2 w3 hb4 hz5 hF6 hW7 hE8=>?_)
 refine qah [1] [] [(1,.v (.int .i64 v)),(2,.p 0 0)] hW7 hE8 fun a9 af=>?_
 refine qae (qab ?_)
 refine qad [0,1,2,3,4,5,6,7,8,9,10,11,12,13,14,15] kz ?_
 refine qah [0,1,2,3,4] [5,6,7,8,9,10,11,12,13,14,15] [(1,.v (.int .i64 v)),(2,.p 0 0),(9,.v (.bool (decide (x1 ≤ v))))] hW7 af fun av ac=>?_
 refine (Bool.eq_false_or_eq_true (decide (x1 ≤ v))).elim (fun aa=>?_) (fun aa=>?_)
 ·
  have ao:=of_decide_eq_true aa
  have ag:=ac.cast (env':=[(1,.v (.int .i64 v)),(2,.p 0 0),(9,.v (.bool true))]) (by rw [aa])
  refine qah [5,6,7,8] [9,10,11,12,13,14,15] [(1,.v (.int .i64 v)),(2,.p 0 0),(9,.v (.bool true)),(13,.v (.bool (decide (x2 < 0))))] hW7 ag fun aw ae=>?_
  refine (Bool.eq_false_or_eq_true (decide (x2 < 0))).elim (fun ab=>?_) (fun ab=>?_)
  ·
   have ap:=of_decide_eq_true ab
   have ah:=ae.cast (env':=[(1,.v (.int .i64 v)),(2,.p 0 0),(9,.v (.bool true)),(13,.v (.bool true))]) (by rw [ab])
   refine qah [9,10,11,12,13,14,15] [] [(4,.v (.bool true))] hW7 ah fun ax ai=>?_
   refine qae (qab ?_)
   refine wp_ret ?_
   refine qaD ai hW7.cells (v:=.bool true) kz ?_
   exact ⟨by simp only [Fld.has,aa,ab,Bool.true_and,Bool.and_true,Bool.false_and,Bool.and_false,Bool.true_or,Bool.false_or,Bool.or_true,Bool.or_false],hW7.step⟩
  have ar:=of_decide_eq_false ab
  have aj:=ae.cast (env':=[(1,.v (.int .i64 v)),(2,.p 0 0),(9,.v (.bool true)),(13,.v (.bool false))]) (by rw [ab])
  refine qah [9,10,11,12,13,14,15] [] [(4,.v (.bool (decide (v ≤ x2))))] hW7 aj fun ay ak=>?_
  refine qae (qab ?_)
  refine wp_ret ?_
  refine qaD ak hW7.cells (v:=.bool (decide (v ≤ x2))) kz ?_
  exact ⟨by simp only [Fld.has,aa,ab,Bool.true_and,Bool.and_true,Bool.false_and,Bool.and_false,Bool.true_or,Bool.false_or,Bool.or_true,Bool.or_false],hW7.step⟩
 have au:=of_decide_eq_false aa
 have al:=ac.cast (env':=[(1,.v (.int .i64 v)),(2,.p 0 0),(9,.v (.bool false))]) (by rw [aa])
 refine qah [5,6,7,8,9,10,11,12,13,14,15] [] [(4,.v (.bool false))] hW7 al fun az am=>?_
 refine qae (qab ?_)
 refine wp_ret ?_
 refine qaD am hW7.cells (v:=.bool false) kz ?_
 exact ⟨by simp only [Fld.has,aa,Bool.true_and,Bool.and_true,Bool.false_and,Bool.and_false,Bool.true_or,Bool.false_or,Bool.or_true,Bool.or_false],hW7.step⟩
theorem qiP (k x1 x2 x3 x4 x5 x6:Int) (fs:List Fld) (AF:Option Addr) (cF:Nat) (v:Int) (n:Int) (s:Bs) (b:Bool) (l:List Tree) (u:List (Int × Bs)) (A1:Option Addr) (c1:Nat) (A2:Option Addr) (c2:Nat) (A3:Option Addr) (c3:Nat) (w:World) :
  Calls Tryd.prog 73 #[.agg #[.int .i64 k,.int .i64 x1,.int .i64 x2,.int .i64 x3,.int .i64 x4,.int .i64 x5,.int .i64 x6,.slice AF fs.length cF],.int .i64 v,.agg #[.int .i64 n,.slice A1 s.length c1,.bool b,.slice A2 l.length c2,.slice A3 u.length c3]] w (qbD w (.bool (Fld.nul (Fld.mk k x1 x2 x3 x4 x5 x6 fs) v (Tree.mk n s b l u)))):=by
 refine enter (n:=20) Tryd.func73 rfl Tryd.ntmps73 kz fun a hE=>?_
 have hW:=WOk.start w Nil
 refine qad [0,1,2] kz ?_
 refine qam (qaY hW hE (d:=3) (cs:=[.int .i64 k,.int .i64 x1,.int .i64 x2,.int .i64 x3,.int .i64 x4,.int .i64 x5,.int .i64 x6,.slice AF fs.length cF]) kz fun b1 a2 w3 hb4 hz5 hF6 hW7 hE8=>?_)
 refine qam (qaY hW7 hE8 (d:=5) (cs:=[.int .i64 n,.slice A1 s.length c1,.bool b,.slice A2 l.length c2,.slice A3 u.length c3]) kz fun b9 ay az ar au av aa ag=>?_)
 refine qah [2] [] [(1,.v (.int .i64 v)),(3,.p 0 0),(5,.p 1 0)] aa ag fun aA ah=>?_
 refine qae (qab ?_)
 refine qad [0,1,2,3,4,5,6,7,8,9,10,11,12,13] kz ?_
 refine qah [0,1,2] [3,4,5,6,7,8,9,10,11,12,13] [(1,.v (.int .i64 v)),(3,.p 0 0),(9,.v (.bool b))] aa ah fun aB ae=>?_
 refine (Bool.eq_false_or_eq_true (b)).elim (fun ac=>?_) (fun ac=>?_)
 ·
  have ai:=ae.cast (env':=[(1,.v (.int .i64 v)),(3,.p 0 0),(9,.v (.bool true))]) (by rw [ac])
  refine qah [3,4,5,6,7] [8,9,10,11,12,13] [(1,.v (.int .i64 v)),(3,.p 0 0),(14,.v (.bool (decide (x3 ≥ 0))))] aa ai fun aC af=>?_
  refine (Bool.eq_false_or_eq_true (decide (x3 ≥ 0))).elim (fun ab=>?_) (fun ab=>?_)
  ·
   have aw:=of_decide_eq_true ab
   have aj:=af.cast (env':=[(1,.v (.int .i64 v)),(3,.p 0 0),(14,.v (.bool true))]) (by rw [ab])
   refine qah [8,9,10,11,12,13] [] [(6,.v (.bool (decide (v ≥ x3))))] aa aj fun aD ak=>?_
   refine qae (qab ?_)
   refine wp_ret ?_
   refine qaD ak aa.cells (v:=.bool (decide (v ≥ x3))) kz ?_
   exact ⟨by simp only [Fld.nul,ac,ab,Bool.true_and,Bool.and_true,Bool.false_and,Bool.and_false,Bool.true_or,Bool.false_or,Bool.or_true,Bool.or_false],aa.step⟩
  have ax:=of_decide_eq_false ab
  have al:=af.cast (env':=[(1,.v (.int .i64 v)),(3,.p 0 0),(14,.v (.bool false))]) (by rw [ab])
  refine qah [8,9,10,11,12,13] [] [(6,.v (.bool false))] aa al fun aE am=>?_
  refine qae (qab ?_)
  refine wp_ret ?_
  refine qaD am aa.cells (v:=.bool false) kz ?_
  exact ⟨by simp only [Fld.nul,ac,ab,Bool.true_and,Bool.and_true,Bool.false_and,Bool.and_false,Bool.true_or,Bool.false_or,Bool.or_true,Bool.or_false],aa.step⟩
 have ao:=ae.cast (env':=[(1,.v (.int .i64 v)),(3,.p 0 0),(9,.v (.bool false))]) (by rw [ac])
 refine qah [3,4,5,6,7,8,9,10,11,12,13] [] [(6,.v (.bool false))] aa ao fun aF ap=>?_
 refine qae (qab ?_)
 refine wp_ret ?_
 refine qaD ap aa.cells (v:=.bool false) kz ?_
 exact ⟨by simp only [Fld.nul,ac,Bool.true_and,Bool.and_true,Bool.false_and,Bool.and_false,Bool.true_or,Bool.false_or,Bool.or_true,Bool.or_false],aa.step⟩
theorem qhj (k:Int) (w:World):Calls Tryd.prog 72 #[.int .i64 k] w (qbD w (.int .i64 ((qbe k:Nat):Int))):=by
 refine enter (n:=11) Tryd.func72 rfl Tryd.ntmps72 kz fun a hE=>?_
 have hW:=WOk.start w Nil
 refine qan [(0,.v (.int .i64 k))] hW hE fun a1 hE2=>?_
 refine wp_seq ?_
 refine qan [(3,.v (.int .i64 k))] hW hE2 fun a3 hE4=>?_
 refine wp_block ?_
 refine qan [(3,.v (.int .i64 k)),(4,.v (.bool (k == 1)))] hW hE4 fun a5 hE6=>?_
 refine qau hE6 (b:=k == 1) kz (fun hc7=>?_) (fun hc7=>?_)
 ·
  have hf8:k = 1:=by simpa using hc7
  refine qan [(2,.v (.int .i64 1))] hW hE6 fun a9 ah=>?_
  refine wp_ret ?_
  refine qaq ?_
  refine qal ?_
  refine qaD ah hW.cells (v:=.int .i64 1) kz ?_
  exact ⟨by simp_all [qbe],hW.step⟩
 have am:k ≠ 1:=by simpa using hc7
 refine wp_seq ?_
 refine qan [(3,.v (.int .i64 k)),(6,.v (.bool (k == 2)))] hW hE6 fun ax aa=>?_
 refine qau aa (b:=k == 2) kz (fun ab=>?_) (fun ab=>?_)
 ·
  have ao:k = 2:=by simpa using ab
  refine wp_skip ?_
  refine qab ?_
  refine qa0 aa (b:=k == 2) kz (ab) ?_
  refine qan [(2,.v (.int .i64 2))] hW aa fun ay ai=>?_
  refine wp_ret ?_
  refine qaq ?_
  refine qal ?_
  refine qaD ai hW.cells (v:=.int .i64 2) kz ?_
  exact ⟨by simp_all [qbe],hW.step⟩
 have ap:k ≠ 2:=by simpa using ab
 refine qaw [0,1] kz ?_
 refine qah [0,1] [] [(3,.v (.int .i64 k)),(6,.v (.bool (k == 5)))] hW aa fun az ac=>?_
 refine qae (qab ?_)
 refine qau ac (b:=k == 5) kz (fun ae=>?_) (fun ae=>?_)
 ·
  have ar:k = 5:=by simpa using ae
  refine qan [(2,.v (.int .i64 2))] hW ac fun aA aj=>?_
  refine wp_ret ?_
  refine qaq ?_
  refine qal ?_
  refine qaD aj hW.cells (v:=.int .i64 2) kz ?_
  exact ⟨by simp_all [qbe],hW.step⟩
 have au:k ≠ 5:=by simpa using ae
 refine qan [(9,.v (.bool (k == 3)))] hW ac fun aB af=>?_
 refine qau af (b:=k == 3) kz (fun ag=>?_) (fun ag=>?_)
 ·
  have av:k = 3:=by simpa using ag
  refine qan [(2,.v (.int .i64 4))] hW af fun aC ak=>?_
  refine wp_ret ?_
  refine qaq ?_
  refine qal ?_
  refine qaD ak hW.cells (v:=.int .i64 4) kz ?_
  exact ⟨by simp_all [qbe],hW.step⟩
 have aw:k ≠ 3:=by simpa using ag
 refine wp_skip ?_
 refine qar ?_
 refine qab ?_
 refine qan [(2,.v (.int .i64 8))] hW af fun aD al=>?_
 refine wp_ret ?_
 refine qaD al hW.cells (v:=.int .i64 8) kz ?_
 exact ⟨by simp_all [qbe],hW.step⟩
theorem qcI (A:Option Addr) (c:Nat) (s:Bs) (hc:s.length ≤ c) (w:World) :
  Calls Tryd.prog 54 #[.slice A s.length c] w (qbD w (.slice A (qax s).length c)):=by
 refine enter (n:=8) Tryd.func54 rfl Tryd.ntmps54 kz fun a hE=>?_
 have hW:=WOk.start w Nil
 refine qan [(0,.v (.slice A s.length c))] hW hE fun a1 hE2=>?_
 refine qad [0,1,2,3,4,5] kz ?_
 refine qah [0,1,2,3] [4,5] [(3,.v (.slice A s.length c)),(6,.v (.int .i64 (if 32767 < ((s.length:Nat):Int) then 32767 else ((s.length:Nat):Int))))] hW hE2 fun a3 hE4=>?_
 refine qam (qc2 hE4 (t:=22) (A:=A) (m:=s.length) (cp:=c) (q:=(if 32767 < ((s.length:Nat):Int) then 32767 else ((s.length:Nat):Int))) (d:=7) (j:=(qax s).length) kz (e:=5) (size:=1) (bytes:=1) kz (by simpa [qax] using qfk s.length) (by simp only [qax,List.length_take]; omega) fun a5 hE6=>?_)
 refine qah [5] [] [(2,.v (.slice A ((qax s).length) c))] hW hE6 fun a7 hE8=>?_
 refine qae (qab ?_)
 refine wp_ret ?_
 refine qaD hE8 hW.cells (v:=.slice A ((qax s).length) c) kz ?_
 exact ⟨rfl,hW.step⟩
theorem qeC (A:Option Addr) (c:Nat) (s:List Tree) (hc:s.length ≤ c) (w:World) :
  Calls Tryd.prog 74 #[.slice A s.length c] w (qbD w (.slice A (qak s).length c)):=by
 refine enter (n:=8) Tryd.func74 rfl Tryd.ntmps74 kz fun a hE=>?_
 have hW:=WOk.start w Nil
 refine qan [(0,.v (.slice A s.length c))] hW hE fun a1 hE2=>?_
 refine qad [0,1,2,3,4,5] kz ?_
 refine qah [0,1,2,3] [4,5] [(3,.v (.slice A s.length c)),(6,.v (.int .i64 (if 32767 < ((s.length:Nat):Int) then 32767 else ((s.length:Nat):Int))))] hW hE2 fun a3 hE4=>?_
 refine qam (qc2 hE4 (t:=34) (A:=A) (m:=s.length) (cp:=c) (q:=(if 32767 < ((s.length:Nat):Int) then 32767 else ((s.length:Nat):Int))) (d:=7) (j:=(qak s).length) kz (e:=37) (size:=5) (bytes:=88) kz (by simpa [qak] using qfk s.length) (by simp only [qak,List.length_take]; omega) fun a5 hE6=>?_)
 refine qah [5] [] [(2,.v (.slice A ((qak s).length) c))] hW hE6 fun a7 hE8=>?_
 refine qae (qab ?_)
 refine wp_ret ?_
 refine qaD hE8 hW.cells (v:=.slice A ((qak s).length) c) kz ?_
 exact ⟨rfl,hW.step⟩
theorem qc8 (A A':Option Addr) (c c':Nat) (s t:Bs) (w:World) (F:Nat → Nat → Prop) (hs:Octs w F A c s) (ht:Octs w F A' c' t) :
  Calls Tryd.prog 31 #[.slice A s.length c,.slice A' t.length c'] w (qbD w (.bool (decide (s = t)))):=by
 refine enter (n:=26) Tryd.func31 rfl Tryd.ntmps31 kz fun a hE=>?_
 have hW:=WOk.start w Nil
 have hl:=Slots.small hs
 refine qan [(0,.v (.slice A s.length c)),(1,.v (.slice A' t.length c'))] hW hE fun a1 hE2=>?_
 refine wp_seq ?_
 refine qan [(0,.v (.slice A s.length c)),(1,.v (.slice A' t.length c')),(10,.v (.bool (((s.length:Nat):Int) != ((t.length:Nat):Int))))] hW hE2 fun a3 hE4=>?_
 refine qau hE4 (b:=((s.length:Nat):Int) != ((t.length:Nat):Int)) kz (fun hc5=>?_) (fun hc5=>?_)
 ·
  have hf6:((s.length:Nat):Int) ≠ ((t.length:Nat):Int):=by simpa using hc5
  refine qan [(4,.v (.bool false))] hW hE4 fun a7 hE8=>?_
  refine wp_ret ?_
  refine qal ?_
  refine qaD hE8 hW.cells (v:=.bool false) kz ?_
  exact ⟨by first | rw [← qev hq (by omega) hlen] | rw [← qfm ‹_›] | rw [← qeu ‹_›],hW.step⟩
 have hf9:((s.length:Nat):Int) = ((t.length:Nat):Int):=by simpa using hc5
 refine wp_skip ?_
 refine qab ?_
 refine wp_seq ?_
 refine qan [(0,.v (.slice A s.length c)),(1,.v (.slice A' t.length c')),(12,.v (.int .i64 ((s.length:Nat):Int))),(13,.v (.int .i64 0))] hW hE4 fun aQ ak=>?_
 refine wp_block ?_
 have hlen:s.length = t.length:=by omega
 refine wp_loop_ghost (fun n_ a_ w_=>∃ (k:Nat),n_ = s.length - k ∧ k ≤ s.length ∧ (s.take k = t.take k) ∧ LInv hW 26 [] [] [(0,.v (.slice A s.length c)),(1,.v (.slice A' t.length c')),(12,.v (.int .i64 ((s.length:Nat):Int))),(13,.v (.int .i64 ((k:Nat):Int)))] a_ w_) (s.length) ⟨0,by omega,by omega,rfl,ak.pk,hW,Fr.refl _ _ _⟩ ?_
 rintro aR aS aT ⟨k,aD,aE,hq,al,ab,am⟩
 refine qan [(0,.v (.slice A s.length c)),(1,.v (.slice A' t.length c')),(12,.v (.int .i64 ((s.length:Nat):Int))),(13,.v (.int .i64 ((k:Nat):Int))),(14,.v (.bool (decide (((k:Nat):Int) < ((s.length:Nat):Int)))))] ab al fun aU ac=>?_
 refine wp_seq ?_
 refine qau ac (b:=decide (((k:Nat):Int) < ((s.length:Nat):Int))) kz (fun ae=>?_) (fun ae=>?_)
 ·
  have aF:=of_decide_eq_true ae
  refine wp_skip ?_
  refine qab ?_
  refine wp_seq ?_
  refine wp_block ?_
  refine qan [(0,.v (.slice A s.length c)),(1,.v (.slice A' t.length c')),(5,.v (.int .i64 ((k:Nat):Int))),(12,.v (.int .i64 ((s.length:Nat):Int))),(13,.v (.int .i64 ((k:Nat):Int)))] ab ac fun aV ao=>?_
  refine qbu kz ab fun aW ap aa=>?_
  refine qaH [0,1,4,5] [(0,.v (.slice A s.length c)),(1,.v (.slice A' t.length c')),(12,.v (.int .i64 ((s.length:Nat):Int))),(13,.v (.int .i64 ((k:Nat):Int))),(16,.v (.slice A s.length c)),(17,.v (.int .i64 ((k:Nat):Int))),(20,.v (.slice A' t.length c')),(21,.v (.int .i64 ((k:Nat):Int)))] 5 (qaa (qac (qaa (qaa (qac (qaa qaf)))))) (fun _ h=>h ▸ aa.cells) rfl ao fun aX ar=>?_
  obtain ⟨aG,aH,au,aI,ah⟩:=Slots.get hs (i:=k) (by omega)
  refine qaJ ar (i:=2) (t:=22) (A:=A) (m:=s.length) (q:=((k:Nat):Int)) (d:=18) kz (e:=5) (size:=1) (bytes:=1) kz au rfl (by omega) kz kz (qaa (qac (qaa (qaa (qac (qaa qaf)))))) rfl fun aY av=>?_
  refine qaP av (i:=3) (t:=5) (b:=aG) (o:=aH + k * 1) (d:=19) kz (cs:=[.int .u8 ((s.getD k 0).toNat:Int)]) (v:=.int .u8 ((s.getD k 0).toNat:Int)) kz (fun w' h'=>h' ▸ (AtF.move ah aa.step nilM qaZ).at_) kz kz (qaa (qac (qaa (qaa (qac (qaa qaf)))))) rfl fun aZ aw=>?_
  obtain ⟨aJ,aK,ax,aL,ai⟩:=Slots.get ht (i:=k) (by omega)
  refine qaJ aw (i:=6) (t:=22) (A:=A') (m:=t.length) (q:=((k:Nat):Int)) (d:=22) kz (e:=5) (size:=1) (bytes:=1) kz ax rfl (by omega) kz kz (qaa (qac (qaa (qaa (qac (qaa qaf)))))) rfl fun ba ay=>?_
  refine qaP ay (i:=7) (t:=5) (b:=aJ) (o:=aK + k * 1) (d:=23) kz (cs:=[.int .u8 ((t.getD k 0).toNat:Int)]) (v:=.int .u8 ((t.getD k 0).toNat:Int)) kz (fun w' h'=>h' ▸ (AtF.move ai aa.step nilM qaZ).at_) kz kz (qaa (qac (qaa (qaa (qac (qaa qaf)))))) rfl fun bf az=>?_
  refine qaH [8] [(0,.v (.slice A s.length c)),(1,.v (.slice A' t.length c')),(12,.v (.int .i64 ((s.length:Nat):Int))),(13,.v (.int .i64 ((k:Nat):Int))),(24,.v (.bool (((s.getD k 0).toNat:Int) != ((t.getD k 0).toNat:Int))))] 0 (qaa (qac (qaa (qaa (qac (qaa qaf)))))) (fun _ h=>h ▸ aa.cells) rfl az fun bg af=>?_
  refine qaG kz ?_ _
  refine qab ?_
  refine qau af (b:=((s.getD k 0).toNat:Int) != ((t.getD k 0).toNat:Int)) kz (fun ag=>?_) (fun ag=>?_)
  ·
   have aM:((s.getD k 0).toNat:Int) ≠ ((t.getD k 0).toNat:Int):=by simpa using ag
   refine qan [(4,.v (.bool false))] aa af fun bh aA=>?_
   refine wp_ret ?_
   refine qaq ?_
   refine qal ?_
   refine qal ?_
   refine qaq ?_
   refine qal ?_
   refine qaD aA aa.cells (v:=.bool false) kz ?_
   exact ⟨by first | rw [← qev hq (by omega) hlen] | rw [← qfm ‹_›] | rw [← qeu ‹_›],aa.step⟩
  have aO:((s.getD k 0).toNat:Int) = ((t.getD k 0).toNat:Int):=by simpa using ag
  refine wp_skip ?_
  refine qar ?_
  refine qab ?_
  refine qaw [0,1] kz ?_
  refine qah [0,1] [] [(0,.v (.slice A s.length c)),(1,.v (.slice A' t.length c')),(12,.v (.int .i64 ((s.length:Nat):Int))),(13,.v (.int .i64 (IntKind.i64.wrap (((k:Nat):Int) + 1))))] aa af fun bi aj=>?_
  refine qae (qab ?_)
  have aB:IntKind.i64.wrap (((k:Nat):Int) + 1) = ((k + 1:Nat):Int):=qaM (by omega)
  rw [aB] at aj
  exact ⟨s.length - (k + 1),by omega,k + 1,rfl,by omega,qgJ hq (by omega) hlen ‹_›,aj.pk,aa,(am.trans ap)⟩
 have aP:=of_decide_eq_false ae
 refine wp_exit ?_
 refine qaB ?_
 refine qaB ?_
 refine qaQ ?_
 refine qab ?_
 refine qan [(4,.v (.bool true))] ab ac fun bj aC=>?_
 refine wp_ret ?_
 refine qaD aC ab.cells (v:=.bool true) kz ?_
 exact ⟨by first | rw [← qev hq (by omega) hlen] | rw [← qfm ‹_›] | rw [← qeu ‹_›],ab.step⟩
theorem sAt (ct:List Value) (t:Tree) (i:Nat) (w:World) (F:Nat → Nat → Prop) (ht:TreeR w F ct t) :
  Calls Tryd.prog 48 #[.agg ct.toArray,.int .i64 (i:Int)] w (qjf w F (t.at_ i)):=by
 obtain ⟨n1,s2,b3,l4,u5,A6,c7,A8,c9,aP,aQ,aR,rfl,rfl,aS,aJ,aT,bt⟩:=ht.open_
 have aK:=aS.small
 have aL:=aJ.small
 refine enter (n:=16) Tryd.func48 rfl Tryd.ntmps48 kz fun a hE=>?_
 have hW:=WOk.start w Nil
 refine qad [0,1] kz ?_
 refine qam (qaY hW hE (d:=2) (cs:=[.int .i64 n1,.slice A6 s2.length c7,.bool b3,.slice A8 l4.length c9,.slice aP u5.length aQ]) kz fun bu bw bx aU aV aW az aA=>?_)
 refine qam (qaO az aA (d:=4) (cs:=[.int .i64 0,.slice none 0 0,.bool false,.slice none 0 0,.slice none 0 0]) kz fun bz bA bB aX aY aZ aa aB=>?_)
 refine qae (qab ?_)
 refine wp_seq ?_
 refine qan [(1,.v (.int .i64 ((i:Nat):Int))),(2,.p 0 0),(4,.p 1 0),(9,.v (.bool (decide (((i:Nat):Int) < ((l4.length:Nat):Int)))))] aa aB fun bC ae=>?_
 refine qau ae (b:=decide (((i:Nat):Int) < ((l4.length:Nat):Int))) kz (fun af=>?_) (fun af=>?_)
 ·
  have ba:=of_decide_eq_true af
  refine qad [0,1,2,3,4,5] kz ?_
  refine qah [0,1,2] [3,4,5] [(4,.p 1 0),(11,.v (.slice A8 l4.length c9)),(12,.v (.int .i64 ((i:Nat):Int)))] aa ae fun bD aC=>?_
  obtain ⟨bf,bg,aD,bh,ab⟩:=Slots.get aJ (i:=i) (by omega)
  obtain ⟨bi,ah⟩:∃ x,l4[i]? = some x:=⟨_,List.getElem?_eq_getElem (by omega)⟩
  have ag:=aT i bi ah
  obtain ⟨ak,al,am,ao,ap,ar,au,av,aw,ax,ay,bj,rfl,ac,bk,bn,bE,bF⟩:=ag.open_
  rw [ac] at ag
  have aM:=bk.small
  have aO:=bn.small
  rw [ac] at ab
  refine qam (qaz aC (t:=34) (A:=A8) (m:=l4.length) (q:=((i:Nat):Int)) (d:=13) kz (e:=37) (size:=5) (bytes:=88) kz aD rfl (by omega) fun bG aE=>?_)
  refine qam (qaE aE (t:=37) (b:=bf) (o:=bg + i * 5) (d:=14) kz (cs:=[.int .i64 ak,.slice ar al.length au,.bool am,.slice av ao.length aw,.slice ax ap.length ay]) (v:=.agg #[.int .i64 ak,.slice ar al.length au,.bool am,.slice av ao.length aw,.slice ax ap.length ay]) kz (AtF.move ab aa.step nilM qaZ).at_ fun bH aF=>?_)
  refine qam (qay aa aF (oi:=1) (cs:=[.int .i64 ak,.slice ar al.length au,.bool am,.slice av ao.length aw,.slice ax ap.length ay]) kz fun bI bo ai aG=>?_)
  refine qae (qab ?_)
  refine wp_ret ?_
  refine qal ?_
  refine qaD aG ai.cells (v:=.agg #[.int .i64 ak,.slice ar al.length au,.bool am,.slice av ao.length aw,.slice ax ap.length ay]) kz ?_
  exact ⟨_,rfl,by rw [qiB ah]; exact ag,ai.step⟩
 have bp:=of_decide_eq_false af
 refine wp_skip ?_
 refine qab ?_
 refine qad [0,1] kz ?_
 refine qah [0] [1] [(4,.p 1 0),(15,.v (.agg #[.int .i64 0,.slice none 0 0,.bool false,.slice none 0 0,.slice none 0 0]))] aa ae fun bJ aH=>?_
 refine qam (qay aa aH (oi:=1) (cs:=[.int .i64 0,.slice none 0 0,.bool false,.slice none 0 0,.slice none 0 0]) kz fun bK bq aj aI=>?_)
 refine qae (qab ?_)
 refine wp_ret ?_
 refine qaD aI aj.cells (v:=.agg #[.int .i64 0,.slice none 0 0,.bool false,.slice none 0 0,.slice none 0 0]) kz ?_
 exact ⟨_,rfl,by rw [qiC (by omega)]; exact TreeR.zero _ _,aj.step⟩
theorem qdA (x:Int) (size:Nat) (hsz:size ≤ 8) (w:World) :
  Calls Tryd.prog 28 #[.int .i64 x,.int .i64 ((size:Nat):Int)] w (qcF w 5 (be size x)):=by
 refine enter (n:=22) Tryd.func28 rfl Tryd.ntmps28 kz fun a hE=>?_
 have hW:=WOk.start w Nil
 refine qan [(0,.v (.int .i64 x)),(1,.v (.int .i64 ((size:Nat):Int)))] hW hE fun a1 hE2=>?_
 refine qan [(0,.v (.int .i64 x)),(1,.v (.int .i64 ((size:Nat):Int))),(5,.v (.slice none 0 0))] hW hE2 fun a3 hE4=>?_
 refine wp_seq ?_
 refine qan [(0,.v (.int .i64 x)),(5,.v (.slice none 0 0)),(6,.v (.int .i64 (IntKind.i64.wrap (((size:Nat):Int) - 1))))] hW hE4 fun a5 hE6=>?_
 refine wp_block ?_
 have hW7:=hW.addNil 5 1
 have hF8:=hW.frNil 5 1
 have aj:IntKind.i64.wrap (((size:Nat):Int) - 1) = ((size:Nat):Int) - 1 - ((0:Nat):Int):=by rw [wrap_i64 (by omega) (by omega)]; omega
 rw [aj] at hE6
 refine wp_loop_ghost (fun n_ a_ w_=>∃ (k:Nat) (A:Option Addr) (c:Nat),n_ = size - k ∧ k ≤ size ∧ LInv hW7 22 [] [brow A c 5 ((be size x).take k)] [(0,.v (.int .i64 x)),(5,.v (.slice A (((be size x).take k).length) c)),(6,.v (.int .i64 (((size:Nat):Int) - 1 - ((k:Nat):Int))))] a_ w_) (size) ⟨0,none,0,by omega,by omega,hE6.pk,hW7,Fr.refl _ _ _⟩ ?_
 rintro n9 aK aL ⟨k,A,c,aG,aH,ak,aa,al⟩
 refine wp_seq ?_
 refine qan [(0,.v (.int .i64 x)),(5,.v (.slice A (((be size x).take k).length) c)),(6,.v (.int .i64 (((size:Nat):Int) - 1 - ((k:Nat):Int)))),(10,.v (.bool (decide ((((size:Nat):Int) - 1 - ((k:Nat):Int)) ≥ 0))))] aa ak fun aM ae=>?_
 refine qau ae (b:=decide ((((size:Nat):Int) - 1 - ((k:Nat):Int)) ≥ 0)) kz (fun af=>?_) (fun af=>?_)
 ·
  have aI:=of_decide_eq_true af
  refine wp_skip ?_
  refine qab ?_
  refine wp_seq ?_
  refine wp_block ?_
  refine qaw [0,1,2,3,4,5,6,7,8] kz ?_
  refine qah [0,1,2,3] [4,5,6,7,8] [(0,.v (.int .i64 x)),(6,.v (.int .i64 (((size:Nat):Int) - 1 - ((k:Nat):Int)))),(13,.v (.slice A (((be size x).take k).length) c)),(14,.v (.int .i64 x)),(16,.v (.int .i64 (IntKind.i64.wrap (8 * (((size:Nat):Int) - 1 - ((k:Nat):Int))))))] aa ae fun aO am=>?_
  refine qam (qhH am (k:=.i64) (p:=x) (q:=(IntKind.i64.wrap (8 * (((size:Nat):Int) - 1 - ((k:Nat):Int))))) (d:=17) (j:=8 * (size - 1 - k)) kz (by rw [wrap_i64 (by omega) (by omega)]; omega) (by simp only [IntKind.bits]; omega) fun aP ao=>?_)
  refine qah [5] [6,7,8] [(0,.v (.int .i64 x)),(6,.v (.int .i64 (((size:Nat):Int) - 1 - ((k:Nat):Int)))),(13,.v (.slice A (((be size x).take k).length) c)),(18,.v (.int .u8 (IntKind.u8.wrap (x / 2 ^ (8 * (size - 1 - k))))))] aa ao fun aQ ap=>?_
  refine qbT aa ap (k:=0) (e:=5) (size:=1) (len:=1) (cs:=[.int .u8 (IntKind.u8.wrap (x / 2 ^ (8 * (size - 1 - k))))]) (d1:=19) (d:=20) kz (t:=22) (bytes:=1) kz (fun _=>by kernel_rfl) rfl kz (by first | (have:=hroom; omega) | (simp; done) | (simp; omega)) fun ab ac aR aS ar au ⟨_,av⟩=>?_
  have aw:(⟨ab,ac,5,1,((be size x).take k).length + 1,bc ((be size x).take k) ++ [.int .u8 (IntKind.u8.wrap (x / 2 ^ (8 * (size - 1 - k))))]⟩:Rw) = brow ab ac 5 ((be size x).take k ++ [by8 (x / 2 ^ (8 * (size - 1 - k)))]):=qbq (by simp only [bc,List.map,qde]; try rfl) rfl
  obtain ⟨ag,ax⟩:=au.rowEq 0 [brow ab ac 5 ((be size x).take k ++ [by8 (x / 2 ^ (8 * (size - 1 - k)))])] aw
  have ay:=EnvOk.pick av (ks:=[0,6,13,18,20]) (env':=[(0,.v (.int .i64 x)),(6,.v (.int .i64 (((size:Nat):Int) - 1 - ((k:Nat):Int)))),(13,.v (.slice A (((be size x).take k).length) c)),(18,.v (.int .u8 (IntKind.u8.wrap (x / 2 ^ (8 * (size - 1 - k)))))),(20,.v (.slice ab (((be size x).take k).length + 1) ac))]) kz
  have az:=ay.cast (env':=[(0,.v (.int .i64 x)),(6,.v (.int .i64 (((size:Nat):Int) - 1 - ((k:Nat):Int)))),(13,.v (.slice A (((be size x).take k).length) c)),(18,.v (.int .u8 (IntKind.u8.wrap (x / 2 ^ (8 * (size - 1 - k)))))),(20,.v (.slice ab (((be size x).take k ++ [by8 (x / 2 ^ (8 * (size - 1 - k)))]).length) ac))]) (by simp only [List.length_append,List.length_cons,List.length_nil,Nat.zero_add])
  refine qah [8] [] [(0,.v (.int .i64 x)),(5,.v (.slice ab (((be size x).take k ++ [by8 (x / 2 ^ (8 * (size - 1 - k)))]).length) ac)),(6,.v (.int .i64 (((size:Nat):Int) - 1 - ((k:Nat):Int))))] ag az fun aT aA=>?_
  refine qae ?_
  refine qar ?_
  refine qab ?_
  refine qaw [0,1,2] kz ?_
  refine qah [0,1,2] [] [(0,.v (.int .i64 x)),(5,.v (.slice ab (((be size x).take k ++ [by8 (x / 2 ^ (8 * (size - 1 - k)))]).length) ac)),(6,.v (.int .i64 (IntKind.i64.wrap ((((size:Nat):Int) - 1 - ((k:Nat):Int)) - 1))))] ag aA fun aU ah=>?_
  refine qae (qab ?_)
  have ai:((be size x).take k ++ [by8 (x / 2 ^ (8 * (size - 1 - k)))]) = ((be size x).take (k + 1)):=(qeT (by omega)).symm
  have aB:=congrArg (brow ab ac 5) ai
  obtain ⟨aC,aD⟩:=ag.rowEq 0 [brow ab ac 5 ((be size x).take (k + 1))] aB
  rw [ai] at ah
  have aE:IntKind.i64.wrap ((((size:Nat):Int) - 1 - ((k:Nat):Int)) - 1) = ((size:Nat):Int) - 1 - (((k + 1):Nat):Int):=by rw [wrap_i64 (by omega) (by omega)]; omega
  rw [aE] at ah
  exact ⟨size - (k + 1),by omega,k + 1,ab,ac,rfl,by omega,ah.pk,aC,(((al.trans ar).trans ax).trans aD)⟩
 have aJ:=of_decide_eq_false af
 refine wp_exit ?_
 refine qaB ?_
 refine qaB ?_
 refine qaQ ?_
 refine qab ?_
 refine qan [(4,.v (.slice A (((be size x).take k).length) c))] aa ae fun aV aF=>?_
 refine wp_ret ?_
 refine qaD aF aa.cells (v:=.slice A (((be size x).take k).length) c) kz ?_
 exact qa2 aa (k:=0) rfl (List.take_of_length_le (by simp; omega))
theorem qcX (x:Nat) (hx:x < 18446744073709551616) (w:World) :
  Calls Tryd.prog 83 #[.int .u64 ((x:Nat):Int)] w (qcF w 5 (uv x)):=by
 refine enter (n:=20) Tryd.func83 rfl Tryd.ntmps83 kz fun a hE=>?_
 have hW:=WOk.start w Nil
 refine qan [(0,.v (.int .u64 ((x:Nat):Int)))] hW hE fun a1 hE2=>?_
 refine qan [(0,.v (.int .u64 ((x:Nat):Int))),(3,.v (.slice none 0 0))] hW hE2 fun a3 hE4=>?_
 refine wp_seq ?_
 refine wp_block ?_
 have hW5:=hW.addNil 5 1
 have hF6:=hW.frNil 5 1
 refine wp_loop_ghost (fun n_ a_ w_=>∃ (A:Option Addr) (c:Nat) (pre:Bs) (m:Nat),n_ = m ∧ (pre ++ uv m = uv x) ∧ (m < 18446744073709551616) ∧ LInv hW5 20 [] [brow A c 5 pre] [(0,.v (.int .u64 ((m:Nat):Int))),(3,.v (.slice A pre.length c))] a_ w_) (x) ⟨none,0,[],x,rfl,rfl,hx,hE4.pk,hW5,Fr.refl _ _ _⟩ ?_
 rintro n7 a8 w9 ⟨A,c,pre,m,aM,hp,hm,am,aa,ao⟩
 refine wp_seq ?_
 refine qan [(0,.v (.int .u64 ((m:Nat):Int))),(3,.v (.slice A pre.length c)),(5,.v (.bool (decide (((m:Nat):Int) > 127))))] aa am fun aS ae=>?_
 refine qau ae (b:=decide (((m:Nat):Int) > 127)) kz (fun af=>?_) (fun af=>?_)
 ·
  have aO:=of_decide_eq_true af
  refine wp_skip ?_
  refine qab ?_
  refine wp_block ?_
  refine qad [0,1,2,3,4,5,6,7] kz ?_
  refine qah [0,1,2,3,4] [5,6,7] [(0,.v (.int .u64 ((m:Nat):Int))),(6,.v (.slice A pre.length c)),(10,.v (.int .u8 (IntKind.u8.wrap (BitVec.ofInt 8 (IntKind.u8.wrap (IntKind.u64.wrap (BitVec.ofInt 64 ((m:Nat):Int) &&& BitVec.ofInt 64 127).toNat)) ||| BitVec.ofInt 8 128).toNat)))] aa ae fun aT ap=>?_
  refine qbT aa ap (k:=0) (e:=5) (size:=1) (len:=1) (cs:=[.int .u8 (IntKind.u8.wrap (BitVec.ofInt 8 (IntKind.u8.wrap (IntKind.u64.wrap (BitVec.ofInt 64 ((m:Nat):Int) &&& BitVec.ofInt 64 127).toNat)) ||| BitVec.ofInt 8 128).toNat)]) (d1:=11) (d:=12) kz (t:=22) (bytes:=1) kz (fun _=>by kernel_rfl) rfl kz (by have h1_:=qdg x hx; rw [← hp,List.length_append] at h1_; omega) fun ab ac aU aV ar au ⟨_,av⟩=>?_
  have aw:(⟨ab,ac,5,1,pre.length + 1,bc pre ++ [.int .u8 (IntKind.u8.wrap (BitVec.ofInt 8 (IntKind.u8.wrap (IntKind.u64.wrap (BitVec.ofInt 64 ((m:Nat):Int) &&& BitVec.ofInt 64 127).toNat)) ||| BitVec.ofInt 8 128).toNat)]⟩:Rw) = brow ab ac 5 (pre ++ [by8 (BitVec.ofInt 8 (IntKind.u8.wrap (IntKind.u64.wrap (BitVec.ofInt 64 ((m:Nat):Int) &&& BitVec.ofInt 64 127).toNat)) ||| BitVec.ofInt 8 128).toNat]):=qbq (by simp only [bc,List.map,qde]; try rfl) rfl
  obtain ⟨ag,ax⟩:=au.rowEq 0 [brow ab ac 5 (pre ++ [by8 (BitVec.ofInt 8 (IntKind.u8.wrap (IntKind.u64.wrap (BitVec.ofInt 64 ((m:Nat):Int) &&& BitVec.ofInt 64 127).toNat)) ||| BitVec.ofInt 8 128).toNat])] aw
  have ay:=EnvOk.pick av (ks:=[0,6,10,12]) (env':=[(0,.v (.int .u64 ((m:Nat):Int))),(6,.v (.slice A pre.length c)),(10,.v (.int .u8 (IntKind.u8.wrap (BitVec.ofInt 8 (IntKind.u8.wrap (IntKind.u64.wrap (BitVec.ofInt 64 ((m:Nat):Int) &&& BitVec.ofInt 64 127).toNat)) ||| BitVec.ofInt 8 128).toNat))),(12,.v (.slice ab (pre.length + 1) ac))]) kz
  have az:=ay.cast (env':=[(0,.v (.int .u64 ((m:Nat):Int))),(6,.v (.slice A pre.length c)),(10,.v (.int .u8 (IntKind.u8.wrap (BitVec.ofInt 8 (IntKind.u8.wrap (IntKind.u64.wrap (BitVec.ofInt 64 ((m:Nat):Int) &&& BitVec.ofInt 64 127).toNat)) ||| BitVec.ofInt 8 128).toNat))),(12,.v (.slice ab ((pre ++ [by8 (BitVec.ofInt 8 (IntKind.u8.wrap (IntKind.u64.wrap (BitVec.ofInt 64 ((m:Nat):Int) &&& BitVec.ofInt 64 127).toNat)) ||| BitVec.ofInt 8 128).toNat]).length) ac))]) (by simp only [List.length_append,List.length_cons,List.length_nil,Nat.zero_add])
  refine qah [7] [] [(0,.v (.int .u64 ((m:Nat):Int))),(3,.v (.slice ab ((pre ++ [by8 (BitVec.ofInt 8 (IntKind.u8.wrap (IntKind.u64.wrap (BitVec.ofInt 64 ((m:Nat):Int) &&& BitVec.ofInt 64 127).toNat)) ||| BitVec.ofInt 8 128).toNat]).length) ac))] ag az fun aW aA=>?_
  refine qae (qab ?_)
  refine qaw [0,1,2] kz ?_
  refine qah [0,1,2] [] [(0,.v (.int .u64 (Int.fdiv ((m:Nat):Int) 128))),(3,.v (.slice ab ((pre ++ [by8 (BitVec.ofInt 8 (IntKind.u8.wrap (IntKind.u64.wrap (BitVec.ofInt 64 ((m:Nat):Int) &&& BitVec.ofInt 64 127).toNat)) ||| BitVec.ofInt 8 128).toNat]).length) ac))] ag aA fun aX ah=>?_
  refine qae ?_
  refine qar ?_
  refine qab ?_
  have al:(pre ++ [by8 (BitVec.ofInt 8 (IntKind.u8.wrap (IntKind.u64.wrap (BitVec.ofInt 64 ((m:Nat):Int) &&& BitVec.ofInt 64 127).toNat)) ||| BitVec.ofInt 8 128).toNat]) = (pre ++ [UInt8.ofNat (m % 128 + 128)]):=by rw [qhO m (by omega)]
  have aB:=congrArg (brow ab ac 5) al
  obtain ⟨aC,aD⟩:=ag.rowEq 0 [brow ab ac 5 (pre ++ [UInt8.ofNat (m % 128 + 128)])] aB
  rw [al] at ah
  have aE:Int.fdiv ((m:Nat):Int) 128 = ((m / 128:Nat):Int):=qiE m
  rw [aE] at ah
  exact ⟨m / 128,by omega,ab,ac,pre ++ [UInt8.ofNat (m % 128 + 128)],m / 128,rfl,by rw [← hp,qc0 (show 128 ≤ m by omega)]; simp,by omega,ah.pk,aC,(((ao.trans ar).trans ax).trans aD)⟩
 have aP:=of_decide_eq_false af
 refine wp_exit ?_
 refine qaB ?_
 refine qaB ?_
 refine qaQ ?_
 refine qab ?_
 refine qad [0,1,2,3,4,5] kz ?_
 refine qah [0,1,2] [3,4,5] [(15,.v (.slice A pre.length c)),(17,.v (.int .u8 (IntKind.u8.wrap ((m:Nat):Int))))] aa ae fun aY aF=>?_
 refine qbT aa aF (k:=0) (e:=5) (size:=1) (len:=1) (cs:=[.int .u8 (IntKind.u8.wrap ((m:Nat):Int))]) (d1:=18) (d:=19) kz (t:=22) (bytes:=1) kz (fun _=>by kernel_rfl) rfl kz (by have h1_:=qdg x hx; rw [← hp,List.length_append] at h1_; omega) fun ai aj aZ ba aQ aG ⟨_,aH⟩=>?_
 have aI:(⟨ai,aj,5,1,pre.length + 1,bc pre ++ [.int .u8 (IntKind.u8.wrap ((m:Nat):Int))]⟩:Rw) = brow ai aj 5 (pre ++ [by8 ((m:Nat):Int)]):=qbq (by simp only [bc,List.map,qde]; try rfl) rfl
 obtain ⟨ak,aR⟩:=aG.rowEq 0 [brow ai aj 5 (pre ++ [by8 ((m:Nat):Int)])] aI
 have aJ:=EnvOk.pick aH (ks:=[15,17,19]) (env':=[(15,.v (.slice A pre.length c)),(17,.v (.int .u8 (IntKind.u8.wrap ((m:Nat):Int)))),(19,.v (.slice ai (pre.length + 1) aj))]) kz
 have aK:=aJ.cast (env':=[(15,.v (.slice A pre.length c)),(17,.v (.int .u8 (IntKind.u8.wrap ((m:Nat):Int)))),(19,.v (.slice ai ((pre ++ [by8 ((m:Nat):Int)]).length) aj))]) (by simp only [List.length_append,List.length_cons,List.length_nil,Nat.zero_add])
 refine qah [5] [] [(2,.v (.slice ai ((pre ++ [by8 ((m:Nat):Int)]).length) aj))] ak aK fun bf aL=>?_
 refine qae (qab ?_)
 refine wp_ret ?_
 refine qaD aL ak.cells (v:=.slice ai ((pre ++ [by8 ((m:Nat):Int)]).length) aj) kz ?_
 exact qa2 ak (k:=0) rfl (by rw [← hp,qbL (show m < 128 by omega),qgP])
theorem qcY (flex null:Bool) (m sz:Nat) (hm:m ≤ 1099511627776) (hsz:sz ≤ 8) (w:World) :
  Calls Tryd.prog 108 #[.bool flex,.bool null,.int .i64 ((m:Nat):Int),.int .i64 ((sz:Nat):Int)] w (qcF w 5 (qao flex null m sz)):=by
 refine enter (n:=28) Tryd.func108 rfl Tryd.ntmps108 kz fun a hE=>?_
 have hW:=WOk.start w Nil
 refine qan [(0,.v (.bool flex)),(1,.v (.bool null)),(2,.v (.int .i64 ((m:Nat):Int))),(3,.v (.int .i64 ((sz:Nat):Int)))] hW hE fun a1 hE2=>?_
 refine wp_seq ?_
 refine wp_block ?_
 refine qad [0,1,2,3,4] kz ?_
 refine qah [0,1] [2,3,4] [(0,.v (.bool flex)),(1,.v (.bool null)),(2,.v (.int .i64 ((m:Nat):Int))),(3,.v (.int .i64 ((sz:Nat):Int))),(11,.v (.bool flex))] hW hE2 fun a3 hE4=>?_
 refine (Bool.eq_false_or_eq_true (flex)).elim (fun hc5=>?_) (fun hc5=>?_)
 ·
  have hE7:=hE4.cast (env':=[(0,.v (.bool true)),(1,.v (.bool null)),(2,.v (.int .i64 ((m:Nat):Int))),(3,.v (.int .i64 ((sz:Nat):Int))),(11,.v (.bool true))]) (by rw [hc5])
  refine qah [2,3,4] [] [(0,.v (.bool true)),(1,.v (.bool null)),(2,.v (.int .i64 ((m:Nat):Int))),(3,.v (.int .i64 ((sz:Nat):Int))),(9,.v (.bool null))] hW hE7 fun a8 hE9=>?_
  refine qae (qab ?_)
  refine qau hE9 (b:=null) kz (fun aa=>?_) (fun aa=>?_)
  ·
   refine qad [0,1] kz ?_
   refine qam (qb6 hW hE9 (e:=5) (size:=1) (len:=1) (cs:=[.int .u8 0]) (d:=14) kz kz fun ab bh bi aW aX aY am ao=>?_)
   have ap:(⟨some ⟨ab,0,none⟩,1,5,1,1,[.int .u8 0]⟩:Rw) = brow (some ⟨ab,0,none⟩) 1 5 [by8 0]:=by first | rfl | (simp only [brow,bc,List.map,qde]; try rfl)
   obtain ⟨ac,aZ⟩:=am.rowEq 0 [brow (some ⟨ab,0,none⟩) 1 5 [by8 0]] ap
   have ar:=EnvOk.pick ao (ks:=[0,1,2,3,9,14]) (env':=[(0,.v (.bool true)),(1,.v (.bool null)),(2,.v (.int .i64 ((m:Nat):Int))),(3,.v (.int .i64 ((sz:Nat):Int))),(9,.v (.bool null)),(14,.v (.slice (some ⟨ab,0,none⟩) 1 1))]) kz
   have au:=ar.cast (env':=[(0,.v (.bool true)),(1,.v (.bool null)),(2,.v (.int .i64 ((m:Nat):Int))),(3,.v (.int .i64 ((sz:Nat):Int))),(9,.v (.bool null)),(14,.v (.slice (some ⟨ab,0,none⟩) ([by8 0].length) 1))]) rfl
   refine qah [1] [] [(8,.v (.slice (some ⟨ab,0,none⟩) ([by8 0].length) 1))] ac au fun bj av=>?_
   refine qae (qab ?_)
   refine wp_ret ?_
   refine qaq ?_
   refine qal ?_
   refine qaD av ac.cells (v:=.slice (some ⟨ab,0,none⟩) ([by8 0].length) 1) kz ?_
   exact qa2 ac (k:=0) rfl (by simp [qao,hc5,aa]; try rfl)
  refine qan [(1,.v (.bool null)),(2,.v (.int .i64 ((m:Nat):Int))),(3,.v (.int .i64 ((sz:Nat):Int))),(15,.v (.bool true))] hW hE9 fun bk aj=>?_
  refine qa0 aj (b:=true) kz rfl ?_
  refine qad [0,1,2,3,4] kz ?_
  refine qah [0,1,2] [3,4] [(19,.v (.int .u64 (IntKind.u64.wrap ((IntKind.u64.wrap ((m:Nat):Int)) + 1))))] hW aj fun bn aw=>?_
  have ax:IntKind.u64.wrap ((IntKind.u64.wrap ((m:Nat):Int)) + 1) = ((m + 1:Nat):Int):=by simp only [qaF,qas,qbg,IntKind.wrap_i64,IntKind.wrap_i32]; omega
  have ay:=EnvOk.pick aw (ks:=[19]) (env':=[(19,.v (.int .u64 (IntKind.u64.wrap ((IntKind.u64.wrap ((m:Nat):Int)) + 1))))]) kz
  have az:=ay.cast (env':=[(19,.v (.int .u64 ((m + 1:Nat):Int)))]) (by rw [ax])
  refine qam (qai az (f:=83) (vs:=[.int .u64 ((m + 1:Nat):Int)]) (d:=20) kz Tryd.call83 (qcX (m + 1) (by omega) _) ?_)
  rintro e_ bo ⟨aA,aB,rfl,aC,aD⟩
  refine ⟨_,rfl,fun bp aE=>?_⟩
  obtain ⟨ae,ba⟩:=hW.frFresh aD (brow aA aB 5 (uv (m + 1))) (Nat.le_refl _) aC
  refine qah [4] [] [(8,.v (.slice aA ((uv (m + 1)).length) aB))] ae aE fun bq aF=>?_
  refine qae (qab ?_)
  refine wp_ret ?_
  refine qaq ?_
  refine qal ?_
  refine qaD aF ae.cells (v:=.slice aA ((uv (m + 1)).length) aB) kz ?_
  exact qa2 ae (k:=0) rfl (by simp [qao,hc5,aa]; try rfl)
 have aG:=hE4.cast (env':=[(0,.v (.bool false)),(1,.v (.bool null)),(2,.v (.int .i64 ((m:Nat):Int))),(3,.v (.int .i64 ((sz:Nat):Int))),(11,.v (.bool false))]) (by rw [hc5])
 refine qah [2,3,4] [] [(0,.v (.bool false)),(1,.v (.bool null)),(2,.v (.int .i64 ((m:Nat):Int))),(3,.v (.int .i64 ((sz:Nat):Int))),(9,.v (.bool false))] hW aG fun bt ak=>?_
 refine qae (qab ?_)
 refine qap ak (b:=false) kz rfl ?_
 refine qan [(1,.v (.bool null)),(2,.v (.int .i64 ((m:Nat):Int))),(3,.v (.int .i64 ((sz:Nat):Int))),(15,.v (.bool false))] hW ak fun bu al=>?_
 refine qap al (b:=false) kz rfl ?_
 refine qan [(2,.v (.int .i64 ((m:Nat):Int))),(3,.v (.int .i64 ((sz:Nat):Int))),(21,.v (.bool null))] hW al fun bw af=>?_
 refine qau af (b:=null) kz (fun ag=>?_) (fun ag=>?_)
 ·
  refine qad [0,1,2] kz ?_
  refine qah [0] [1,2] [(23,.v (.int .i64 ((sz:Nat):Int)))] hW af fun bx aH=>?_
  refine qam (qai aH (f:=28) (vs:=[.int .i64 (-1),.int .i64 ((sz:Nat):Int)]) (d:=24) kz Tryd.call28 (qdA (-1) sz (by first | decide | exact qbb _ | omega) _) ?_)
  rintro e_ bz ⟨aI,aJ,rfl,aK,aL⟩
  refine ⟨_,rfl,fun bA aM=>?_⟩
  obtain ⟨ah,bf⟩:=hW.frFresh aL (brow aI aJ 5 (be sz (-1))) (Nat.le_refl _) aK
  refine qah [2] [] [(8,.v (.slice aI ((be sz (-1)).length) aJ))] ah aM fun bB aO=>?_
  refine qae (qab ?_)
  refine wp_ret ?_
  refine qaq ?_
  refine qal ?_
  refine qaD aO ah.cells (v:=.slice aI ((be sz (-1)).length) aJ) kz ?_
  exact qa2 ah (k:=0) rfl (by simp [qao,hc5,ag]; try rfl)
 refine wp_skip ?_
 refine qar ?_
 refine qab ?_
 refine qad [0,1,2,3] kz ?_
 refine qah [0,1] [2,3] [(25,.v (.int .i64 ((m:Nat):Int))),(26,.v (.int .i64 ((sz:Nat):Int)))] hW af fun bC aP=>?_
 refine qam (qai aP (f:=28) (vs:=[.int .i64 ((m:Nat):Int),.int .i64 ((sz:Nat):Int)]) (d:=27) kz Tryd.call28 (qdA ((m:Nat):Int) sz (by first | decide | exact qbb _ | omega) _) ?_)
 rintro e_ bD ⟨aQ,aR,rfl,aS,aT⟩
 refine ⟨_,rfl,fun bE aU=>?_⟩
 obtain ⟨ai,bg⟩:=hW.frFresh aT (brow aQ aR 5 (be sz ((m:Nat):Int))) (Nat.le_refl _) aS
 refine qah [3] [] [(8,.v (.slice aQ ((be sz ((m:Nat):Int)).length) aR))] ai aU fun bF aV=>?_
 refine qae (qab ?_)
 refine wp_ret ?_
 refine qaD aV ai.cells (v:=.slice aQ ((be sz ((m:Nat):Int)).length) aR) kz ?_
 exact qa2 ai (k:=0) rfl (by simp [qao,hc5,ag]; try rfl)
theorem qik (A:Option Addr) (c:Nat) (l:List Fld) (w:World) (F:Nat → Nat → Prop) (hl:FldsR w F A c l) :
  Calls Tryd.prog 76 #[.slice A l.length c] w (qbD w (.int .u32 (qat l))):=by
 obtain ⟨xfs,h1,h2⟩:=hl.ex
 have hsm:=h1.small
 refine enter (n:=23) Tryd.func76 rfl Tryd.ntmps76 kz fun a hE=>?_
 have hW:=WOk.start w Nil
 refine qan [(0,.v (.slice A l.length c))] hW hE fun a1 hE2=>?_
 refine qan [(0,.v (.slice A l.length c)),(3,.v (.int .u32 0))] hW hE2 fun a3 hE4=>?_
 refine wp_seq ?_
 refine qan [(3,.v (.int .u32 0)),(6,.v (.slice A l.length c)),(7,.v (.int .i64 ((l.length:Nat):Int))),(8,.v (.int .i64 0))] hW hE4 fun a5 hE6=>?_
 refine wp_block ?_
 refine wp_loop_ghost (fun n_ a_ w_=>∃ (k:Nat),n_ = l.length - k ∧ k ≤ l.length ∧ LInv hW 23 [] [] [(3,.v (.int .u32 (qat (l.take k)))),(6,.v (.slice A l.length c)),(7,.v (.int .i64 ((l.length:Nat):Int))),(8,.v (.int .i64 ((k:Nat):Int)))] a_ w_) (l.length) ⟨0,by omega,by omega,hE6.pk,hW,Fr.refl _ _ _⟩ ?_
 rintro n7 a8 w9 ⟨k,bf,bg,av,aa,ao⟩
 refine qan [(3,.v (.int .u32 (qat (l.take k)))),(6,.v (.slice A l.length c)),(7,.v (.int .i64 ((l.length:Nat):Int))),(8,.v (.int .i64 ((k:Nat):Int))),(9,.v (.bool (decide (((k:Nat):Int) < ((l.length:Nat):Int)))))] aa av fun bw ag=>?_
 refine wp_seq ?_
 refine qau ag (b:=decide (((k:Nat):Int) < ((l.length:Nat):Int))) kz (fun ah=>?_) (fun ah=>?_)
 ·
  have bh:=of_decide_eq_true ah
  refine wp_skip ?_
  refine qab ?_
  refine wp_seq ?_
  refine wp_block ?_
  refine qad [0,1,2,3] kz ?_
  obtain ⟨bi,bj,aw,bk,ae⟩:=Slots.get h1 (i:=k) (by omega)
  obtain ⟨bn,ai⟩:∃ x,l[k]? = some x:=⟨_,List.getElem?_eq_getElem (by omega)⟩
  have ap:=h2 k bn ai
  obtain ⟨ax,ay,az,aA,ab,aB,aC,aD,aE,aF,bo,rfl,af,bp,bx⟩:=ap.open_
  rw [af] at ap
  have ba:=bp.small
  rw [af] at ae
  refine qam (qaz ag (t:=30) (A:=A) (m:=l.length) (q:=((k:Nat):Int)) (d:=10) kz (e:=60) (size:=8) (bytes:=80) kz aw rfl (by omega) fun bz aG=>?_)
  refine qam (qaE aG (t:=60) (b:=bi) (o:=bj + k * 8) (d:=11) kz (cs:=[.int .i64 ax,.int .i64 ay,.int .i64 az,.int .i64 aA,.int .i64 ab,.int .i64 aB,.int .i64 aC,.slice aE aD.length aF]) (v:=.agg #[.int .i64 ax,.int .i64 ay,.int .i64 az,.int .i64 aA,.int .i64 ab,.int .i64 aB,.int .i64 aC,.slice aE aD.length aF]) kz (AtF.move ae aa.step nilM qaZ).at_ fun bA aH=>?_)
  refine qam (qaO aa aH (d:=5) (cs:=[.int .i64 0,.int .i64 0,.int .i64 0,.int .i64 0,.int .i64 0,.int .i64 0,.int .i64 0,.slice none 0 0]) kz fun bB bC bD bq bt ar aI aJ=>?_)
  refine qam (qay aI aJ (oi:=0) (cs:=[.int .i64 ax,.int .i64 ay,.int .i64 az,.int .i64 aA,.int .i64 ab,.int .i64 aB,.int .i64 aC,.slice aE aD.length aF]) kz fun bE au ac aK=>?_)
  refine qae (qab ?_)
  refine qan [(3,.v (.int .u32 (qat (l.take k)))),(5,.p 0 0),(6,.v (.slice A l.length c)),(7,.v (.int .i64 ((l.length:Nat):Int))),(8,.v (.int .i64 ((k:Nat):Int))),(14,.v (.bool (decide (ab ≥ 0))))] ac aK fun bF aj=>?_
  refine qau aj (b:=decide (ab ≥ 0)) kz (fun ak=>?_) (fun ak=>?_)
  ·
   have aL:=of_decide_eq_true ak
   refine qaw [0,1,2,3,4,5,6] kz ?_
   refine qah [0,1,2,3,4,5,6] [] [(3,.v (.int .u32 (if IntKind.u32.wrap ((IntKind.u32.wrap ab) + 1) > qat (l.take k) then IntKind.u32.wrap ((IntKind.u32.wrap ab) + 1) else qat (l.take k)))),(6,.v (.slice A l.length c)),(7,.v (.int .i64 ((l.length:Nat):Int))),(8,.v (.int .i64 ((k:Nat):Int)))] ac aj fun bG aM=>?_
   refine qae ?_
   refine qar ?_
   refine qab ?_
   refine qaw [0,1] kz ?_
   refine qah [0,1] [] [(3,.v (.int .u32 (if IntKind.u32.wrap ((IntKind.u32.wrap ab) + 1) > qat (l.take k) then IntKind.u32.wrap ((IntKind.u32.wrap ab) + 1) else qat (l.take k)))),(6,.v (.slice A l.length c)),(7,.v (.int .i64 ((l.length:Nat):Int))),(8,.v (.int .i64 (IntKind.i64.wrap (((k:Nat):Int) + 1))))] ac aM fun bH aO=>?_
   refine qae (qab ?_)
   obtain ⟨al,aP,aQ⟩:=ac.cutB aO 0 [] [(3,.v (.int .u32 (if IntKind.u32.wrap ((IntKind.u32.wrap ab) + 1) > qat (l.take k) then IntKind.u32.wrap ((IntKind.u32.wrap ab) + 1) else qat (l.take k)))),(6,.v (.slice A l.length c)),(7,.v (.int .i64 ((l.length:Nat):Int))),(8,.v (.int .i64 (IntKind.i64.wrap (((k:Nat):Int) + 1))))]
   have aR:IntKind.i64.wrap (((k:Nat):Int) + 1) = ((k + 1:Nat):Int):=qaM (by omega)
   rw [aR] at al
   have aS:(if IntKind.u32.wrap ((IntKind.u32.wrap ab) + 1) > qat (l.take k) then IntKind.u32.wrap ((IntKind.u32.wrap ab) + 1) else qat (l.take k)) = qat (l.take (k + 1)):=qgR ai aL
   rw [aS] at al
   exact ⟨l.length - (k + 1),by omega,k + 1,rfl,by omega,al.pk,aP,(((ao.trans ar).trans au).trans aQ)⟩
  have aT:=of_decide_eq_false ak
  refine wp_skip ?_
  refine qar ?_
  refine qab ?_
  refine qaw [0,1] kz ?_
  refine qah [0,1] [] [(3,.v (.int .u32 (qat (l.take k)))),(6,.v (.slice A l.length c)),(7,.v (.int .i64 ((l.length:Nat):Int))),(8,.v (.int .i64 (IntKind.i64.wrap (((k:Nat):Int) + 1))))] ac aj fun bI aU=>?_
  refine qae (qab ?_)
  obtain ⟨am,aV,aW⟩:=ac.cutB aU 0 [] [(3,.v (.int .u32 (qat (l.take k)))),(6,.v (.slice A l.length c)),(7,.v (.int .i64 ((l.length:Nat):Int))),(8,.v (.int .i64 (IntKind.i64.wrap (((k:Nat):Int) + 1))))]
  have aX:IntKind.i64.wrap (((k:Nat):Int) + 1) = ((k + 1:Nat):Int):=qaM (by omega)
  rw [aX] at am
  have aY:qat (l.take k) = qat (l.take (k + 1)):=qgS ai aT
  rw [aY] at am
  exact ⟨l.length - (k + 1),by omega,k + 1,rfl,by omega,am.pk,aV,(((ao.trans ar).trans au).trans aW)⟩
 have bu:=of_decide_eq_false ah
 refine wp_exit ?_
 refine qaB ?_
 refine qaB ?_
 refine qaQ ?_
 refine qab ?_
 refine qan [(2,.v (.int .u32 (qat (l.take k))))] aa ag fun bJ aZ=>?_
 refine wp_ret ?_
 refine qaD aZ aa.cells (v:=.int .u32 (qat (l.take k))) kz ?_
 exact ⟨by rw [List.take_of_length_le (by omega)],aa.step⟩
def qhk (d:Nat):Prop:=∀ (A:Option Addr) (c:Nat) (l:List Fld) (v:Int) (flex:Bool) (ct:List Value) (t:Tree) (w:World) (F:Nat → Nat → Prop),FldsR w F A c l → depths l ≤ d → TreeR w F ct t → (qaR d l v flex t).length ≤ 1099511627776 →
  Calls Tryd.prog 57 #[.slice A l.length c,.int .i64 v,.bool flex,.agg ct.toArray] w (qcF w 5 (qaR d l v flex t))
theorem qhl {d:Nat} (hp:qhk d) (kind:Int) (A:Option Addr) (c:Nat) (l:List Fld) (null:Bool) (v:Int) (flex:Bool) (ct:List Value) (t:Tree) (w:World) (F:Nat → Nat → Prop) (hl:FldsR w F A c l) (hd:depths l ≤ d) (ht:TreeR w F ct t) (hroom:(qaL (qaR d l v flex) kind null flex t).length ≤ 1099511627776) :
  Calls Tryd.prog 109 #[.int .i64 kind,.slice A l.length c,.bool null,.int .i64 v,.bool flex,.agg ct.toArray] w (qcF w 5 (qaL (qaR d l v flex) kind null flex t)):=by
 obtain ⟨n1,s2,b3,l4,u5,A6,c7,A8,c9,dj,dl,ec,rfl,rfl,aY,ee,fD,fE⟩:=ht.open_
 have dP:=aY.small
 have dQ:=ee.small
 have hl0:=hl
 obtain ⟨xfs,h1,h2⟩:=hl.ex
 have hsm:=h1.small
 refine enter (n:=70) Tryd.func109 rfl Tryd.ntmps109 kz fun a hE=>?_
 have hW:=WOk.start w Nil
 refine qad [0,1] kz ?_
 refine qam (qaY hW hE (d:=11) (cs:=[.int .i64 n1,.slice A6 s2.length c7,.bool b3,.slice A8 l4.length c9,.slice dj u5.length dl]) kz fun fF fG fH ef eg eh aa dp=>?_)
 refine qah [1] [] [(0,.v (.int .i64 kind)),(1,.v (.slice A l.length c)),(2,.v (.bool null)),(3,.v (.int .i64 v)),(4,.v (.bool flex)),(11,.p 0 0)] aa dp fun fI dq=>?_
 refine qae (qab ?_)
 refine wp_seq ?_
 refine qan [(0,.v (.int .i64 kind)),(1,.v (.slice A l.length c)),(2,.v (.bool null)),(3,.v (.int .i64 v)),(4,.v (.bool flex)),(11,.p 0 0),(16,.v (.int .i64 kind))] aa dq fun fJ dr=>?_
 refine wp_block ?_
 refine qan [(0,.v (.int .i64 kind)),(1,.v (.slice A l.length c)),(2,.v (.bool null)),(3,.v (.int .i64 v)),(4,.v (.bool flex)),(11,.p 0 0),(16,.v (.int .i64 kind)),(17,.v (.bool (kind == 0)))] aa dr fun fK bo=>?_
 refine qau bo (b:=kind == 0) kz (fun ac=>?_) (fun ac=>?_)
 ·
  have dt:kind = 0:=by simpa using ac
  refine qad [0,1,2,3,4,5] kz ?_
  refine qah [0,1,2,3] [4,5] [(22,.v (.int .u8 (IntKind.u8.wrap (IntKind.i64.wrap (BitVec.ofInt 64 n1 &&& BitVec.ofInt 64 1).toNat))))] aa bo fun fL du=>?_
  refine qam (qb6 aa du (e:=5) (size:=1) (len:=1) (cs:=[.int .u8 (IntKind.u8.wrap (IntKind.i64.wrap (BitVec.ofInt 64 n1 &&& BitVec.ofInt 64 1).toNat))]) (d:=23) kz kz fun bp fM fN ei ej ek dv dw=>?_)
  have dx:(⟨some ⟨bp,0,none⟩,1,5,1,1,[.int .u8 (IntKind.u8.wrap (IntKind.i64.wrap (BitVec.ofInt 64 n1 &&& BitVec.ofInt 64 1).toNat))]⟩:Rw) = brow (some ⟨bp,0,none⟩) 1 5 [by8 (IntKind.i64.wrap (BitVec.ofInt 64 n1 &&& BitVec.ofInt 64 1).toNat)]:=by first | rfl | (simp only [brow,bc,List.map,qde]; try rfl)
  obtain ⟨bq,em⟩:=dv.rowEq 0 [brow (some ⟨bp,0,none⟩) 1 5 [by8 (IntKind.i64.wrap (BitVec.ofInt 64 n1 &&& BitVec.ofInt 64 1).toNat)]] dx
  have dy:=EnvOk.pick dw (ks:=[22,23]) (env':=[(22,.v (.int .u8 (IntKind.u8.wrap (IntKind.i64.wrap (BitVec.ofInt 64 n1 &&& BitVec.ofInt 64 1).toNat)))),(23,.v (.slice (some ⟨bp,0,none⟩) 1 1))]) kz
  have dA:=dy.cast (env':=[(22,.v (.int .u8 (IntKind.u8.wrap (IntKind.i64.wrap (BitVec.ofInt 64 n1 &&& BitVec.ofInt 64 1).toNat)))),(23,.v (.slice (some ⟨bp,0,none⟩) ([by8 (IntKind.i64.wrap (BitVec.ofInt 64 n1 &&& BitVec.ofInt 64 1).toNat)].length) 1))]) rfl
  refine qah [5] [] [(12,.v (.slice (some ⟨bp,0,none⟩) ([by8 (IntKind.i64.wrap (BitVec.ofInt 64 n1 &&& BitVec.ofInt 64 1).toNat)].length) 1))] bq dA fun fO dB=>?_
  refine qae (qab ?_)
  refine wp_ret ?_
  refine qaq ?_
  refine qal ?_
  refine qaD dB bq.cells (v:=.slice (some ⟨bp,0,none⟩) ([by8 (IntKind.i64.wrap (BitVec.ofInt 64 n1 &&& BitVec.ofInt 64 1).toNat)].length) 1) kz ?_
  exact qa2 bq (k:=0) rfl (by (try simp only [and1]); simp [qaL,Tree.S,Tree.N,dt,ac])
 have ak:kind ≠ 0:=by simpa using ac
 refine qan [(0,.v (.int .i64 kind)),(1,.v (.slice A l.length c)),(2,.v (.bool null)),(3,.v (.int .i64 v)),(4,.v (.bool flex)),(11,.p 0 0),(16,.v (.int .i64 kind)),(24,.v (.bool (kind == 7)))] aa bo fun fP bt=>?_
 refine qau bt (b:=kind == 7) kz (fun ae=>?_) (fun ae=>?_)
 ·
  have dC:kind = 7:=by simpa using ae
  refine qad [0,1] kz ?_
  refine qam (qbK aa bt (d:=26) (j:=16) (t:=22) (e:=5) (bytes:=1) (z:=.int .u8 0) kz kz kz kz (rfl) (rfl) (by omega) fun aB fQ fR eo ep eu aC dD=>?_)
  refine qah [1] [] [(11,.p 0 0),(13,.v (.slice (some ⟨aB,0,none⟩) 16 16))] aC dD fun fS dE=>?_
  refine qae (qab ?_)
  refine qad [0,1,2,3] kz ?_
  refine qah [0,1,2] [3] [(13,.v (.slice (some ⟨aB,0,none⟩) 16 16)),(27,.v (.slice (some ⟨aB,0,none⟩) 16 16)),(29,.v (.slice A6 s2.length c7))] aC dE fun fT dF=>?_
  refine qam (qbU aC dF (k:=0) (d:=30) (t:=22) (u:=22) (e:=5) (bytes:=1) (A:=(some ⟨aB,0,none⟩)) (As:=A6) (m:=s2.length) (cs:=c7) (m0:=16) (c:=16) (xs:=(List.replicate 16 (.int .u8 0))) (news:=bc s2) kz kz rfl (aY.move aC.step nilM aC.imm).src fun fU fV ew dG dH=>?_)
  have dI:(⟨(some ⟨aB,0,none⟩),16,5,1,16,qba (List.replicate 16 (.int .u8 0)) 0 ((bc s2).take (min s2.length 16))⟩:Rw) = brow (some ⟨aB,0,none⟩) 16 5 (qa7 s2):=qcN _ _ _
  obtain ⟨bu,ey⟩:=dG.rowEq 0 [brow (some ⟨aB,0,none⟩) 16 5 (qa7 s2)] dI
  have dJ:=EnvOk.pick dH (ks:=[13,27,29,30]) (env':=[(13,.v (.slice (some ⟨aB,0,none⟩) 16 16)),(27,.v (.slice (some ⟨aB,0,none⟩) 16 16)),(29,.v (.slice A6 s2.length c7)),(30,.v (.int .i64 ((min s2.length 16:Nat):Int)))]) kz
  have dK:=dJ.cast (env':=[(13,.v (.slice (some ⟨aB,0,none⟩) ((qa7 s2).length) 16)),(27,.v (.slice (some ⟨aB,0,none⟩) ((qa7 s2).length) 16)),(29,.v (.slice A6 s2.length c7)),(30,.v (.int .i64 ((min s2.length 16:Nat):Int)))]) (by rw [qa3 _])
  refine qae (qab ?_)
  refine qan [(12,.v (.slice (some ⟨aB,0,none⟩) ((qa7 s2).length) 16))] bu dK fun fW dL=>?_
  refine wp_ret ?_
  refine qaq ?_
  refine qal ?_
  refine qaD dL bu.cells (v:=.slice (some ⟨aB,0,none⟩) ((qa7 s2).length) 16) kz ?_
  exact qa2 bu (k:=0) rfl (by (try simp only [and1]); simp [qaL,Tree.S,Tree.N,ak,dC,ac,ae])
 have am:kind ≠ 7:=by simpa using ae
 refine qan [(0,.v (.int .i64 kind)),(1,.v (.slice A l.length c)),(2,.v (.bool null)),(3,.v (.int .i64 v)),(4,.v (.bool flex)),(11,.p 0 0),(16,.v (.int .i64 kind)),(32,.v (.bool (kind == 8)))] aa bt fun fX bw=>?_
 refine qau bw (b:=kind == 8) kz (fun ag=>?_) (fun ag=>?_)
 ·
  have bC:kind = 8:=by simpa using ag
  refine qad [0,1,2,3] kz ?_
  refine qah [0,1] [2,3] [(2,.v (.bool null)),(4,.v (.bool flex)),(35,.v (.slice A6 s2.length c7))] aa bw fun fY dM=>?_
  have dR:=qa4 s2
  refine qam (qai dM (f:=54) (vs:=[.slice A6 s2.length c7]) (d:=36) kz Tryd.call54 (qcI _ _ s2 (aY.move aa.step nilM aa.imm).le _) ?_)
  rintro e_ fZ ⟨rfl,bD⟩
  refine ⟨_,rfl,fun f5 dN=>?_⟩
  have ao:=aa.next_nil bD
  have ez:=aa.frN bD
  refine qah [3] [] [(2,.v (.bool null)),(4,.v (.bool flex)),(14,.v (.slice A6 ((qax s2).length) c7))] ao dN fun f7 bE=>?_
  refine qae (qab ?_)
  refine wp_seq ?_
  refine qan [(2,.v (.bool null)),(4,.v (.bool flex)),(14,.v (.slice A6 ((qax s2).length) c7)),(37,.v (.bool null))] ao bE fun eB aD=>?_
  refine qau aD (b:=null) kz (fun aE=>?_) (fun aE=>?_)
  ·
   refine qaw [0] kz ?_
   refine qah [0] [] [(2,.v (.bool null)),(4,.v (.bool flex)),(14,.v (.slice none 0 0))] ao aD fun eC bF=>?_
   refine qae (qab ?_)
   refine qad [0,1,2,3,4,5,6,7] kz ?_
   refine qah [0,1,2,3] [4,5,6,7] [(14,.v (.slice none 0 0)),(38,.v (.bool flex)),(39,.v (.bool null)),(41,.v (.int .i64 0))] ao bF fun eD bG=>?_
   refine qam (qai bG (f:=108) (vs:=[.bool flex,.bool null,.int .i64 0,.int .i64 2]) (d:=42) kz Tryd.call108 (qcY flex null 0 2 (by first | omega | exact Nat.le_trans (qa4 _) (by decide) | exact Nat.le_trans (qbY _) (by decide) | (simp; done) | (have:=hroom; omega)) (by first | decide | omega) _) ?_)
   rintro e_ eE ⟨aF,aG,rfl,bH,bI⟩
   refine ⟨_,rfl,fun eF bJ=>?_⟩
   obtain ⟨aZ,dS⟩:=ao.frFresh bI (brow aF aG 5 (qao flex null 0 2)) (Nat.le_refl _) bH
   refine qah [5] [6,7] [(42,.v (.slice aF ((qao flex null 0 2).length) aG)),(43,.v (.slice none 0 0))] aZ bJ fun eG bK=>?_
   refine qam (qaW aZ bK (k:=0) (d:=44) (t:=22) (e:=5) (size:=1) (bytes:=1) (A:=aF) (As:=none) (m0:=((qao flex null 0 2).length)) (c:=aG) (m:=0) (cs:=0) (xs:=(bc (qao flex null 0 2))) (news:=bc ([]:Bs)) kz kz rfl (Octs.nil _ (fun _ _=>True)).src (fun _=>rfl) (by first | exact qcH (by omega) (by decide) (by omega) | exact qcH (Nat.le_trans (qa4 _) (by decide)) (by decide) (Nat.le_trans (qa4 _) (by decide)) | (simp; done)) fun ap ar eH eI dT bL bM=>?_)
   have bN:(⟨ap,ar,5,1,(qao flex null 0 2).length + 0,bc (qao flex null 0 2) ++ bc ([]:Bs)⟩:Rw) = brow ap ar 5 (qao flex null 0 2 ++ ([]:Bs)):=qbq (rfl) rfl
   obtain ⟨aH,dU⟩:=bL.rowEq 0 [brow ap ar 5 (qao flex null 0 2 ++ ([]:Bs))] bN
   have bO:=EnvOk.pick bM (ks:=[42,43,44]) (env':=[(42,.v (.slice aF ((qao flex null 0 2).length) aG)),(43,.v (.slice none 0 0)),(44,.v (.slice ap ((qao flex null 0 2).length + 0) ar))]) kz
   have bP:=bO.cast (env':=[(42,.v (.slice aF ((qao flex null 0 2).length) aG)),(43,.v (.slice none 0 0)),(44,.v (.slice ap ((qao flex null 0 2 ++ ([]:Bs)).length) ar))]) (by simp only [List.length_append,List.length_cons,List.length_nil,Nat.zero_add])
   refine qah [7] [] [(12,.v (.slice ap ((qao flex null 0 2 ++ ([]:Bs)).length) ar))] aH bP fun eJ bQ=>?_
   refine qae (qab ?_)
   refine wp_ret ?_
   refine qaq ?_
   refine qal ?_
   refine qaD bQ aH.cells (v:=.slice ap ((qao flex null 0 2 ++ ([]:Bs)).length) ar) kz ?_
   exact qa2 aH (k:=0) rfl (by (try simp only [and1]); simp [qaL,Tree.S,Tree.N,ak,am,bC,ac,ae,ag,aE])
  refine wp_skip ?_
  refine qab ?_
  refine qad [0,1,2,3,4,5,6,7] kz ?_
  refine qah [0,1,2,3] [4,5,6,7] [(14,.v (.slice A6 ((qax s2).length) c7)),(38,.v (.bool flex)),(39,.v (.bool null)),(41,.v (.int .i64 (((qax s2).length:Nat):Int)))] ao aD fun eK bR=>?_
  refine qam (qai bR (f:=108) (vs:=[.bool flex,.bool null,.int .i64 (((qax s2).length:Nat):Int),.int .i64 2]) (d:=42) kz Tryd.call108 (qcY flex null ((qax s2).length) 2 (by first | omega | exact Nat.le_trans (qa4 _) (by decide) | exact Nat.le_trans (qbY _) (by decide) | (simp; done) | (have:=hroom; omega)) (by first | decide | omega) _) ?_)
  rintro e_ eL ⟨aI,aJ,rfl,bS,bT⟩
  refine ⟨_,rfl,fun eM bU=>?_⟩
  obtain ⟨ah,dV⟩:=ao.frFresh bT (brow aI aJ 5 (qao flex null ((qax s2).length) 2)) (Nat.le_refl _) bS
  refine qah [5] [6,7] [(42,.v (.slice aI ((qao flex null ((qax s2).length) 2).length) aJ)),(43,.v (.slice A6 ((qax s2).length) c7))] ah bU fun eN bV=>?_
  refine qam (qaW ah bV (k:=0) (d:=44) (t:=22) (e:=5) (size:=1) (bytes:=1) (A:=aI) (As:=A6) (m0:=((qao flex null ((qax s2).length) 2).length)) (c:=aJ) (m:=((qax s2).length)) (cs:=c7) (xs:=(bc (qao flex null ((qax s2).length) 2))) (news:=bc (qax s2)) kz kz rfl ((aY.take 32767).move ah.step nilM ah.imm).src ((aY.take 32767).move ah.step nilM ah.imm).cap (by first | exact qcH (by omega) (by decide) (by omega) | exact qcH (Nat.le_trans (qa4 _) (by decide)) (by decide) (Nat.le_trans (qa4 _) (by decide)) | (simp; done)) fun au av eO eP dW bW bX=>?_)
  have bY:(⟨au,av,5,1,(qao flex null ((qax s2).length) 2).length + (qax s2).length,bc (qao flex null ((qax s2).length) 2) ++ bc (qax s2)⟩:Rw) = brow au av 5 (qao flex null ((qax s2).length) 2 ++ (qax s2)):=qbq (rfl) rfl
  obtain ⟨aK,dX⟩:=bW.rowEq 0 [brow au av 5 (qao flex null ((qax s2).length) 2 ++ (qax s2))] bY
  have bZ:=EnvOk.pick bX (ks:=[42,43,44]) (env':=[(42,.v (.slice aI ((qao flex null ((qax s2).length) 2).length) aJ)),(43,.v (.slice A6 ((qax s2).length) c7)),(44,.v (.slice au ((qao flex null ((qax s2).length) 2).length + (qax s2).length) av))]) kz
  have b8:=bZ.cast (env':=[(42,.v (.slice aI ((qao flex null ((qax s2).length) 2).length) aJ)),(43,.v (.slice A6 ((qax s2).length) c7)),(44,.v (.slice au ((qao flex null ((qax s2).length) 2 ++ (qax s2)).length) av))]) (by simp only [List.length_append,List.length_cons,List.length_nil,Nat.zero_add])
  refine qah [7] [] [(12,.v (.slice au ((qao flex null ((qax s2).length) 2 ++ (qax s2)).length) av))] aK b8 fun eQ cd=>?_
  refine qae (qab ?_)
  refine wp_ret ?_
  refine qaq ?_
  refine qal ?_
  refine qaD cd aK.cells (v:=.slice au ((qao flex null ((qax s2).length) 2 ++ (qax s2)).length) av) kz ?_
  exact qa2 aK (k:=0) rfl (by (try simp only [and1]); simp [qaL,Tree.S,Tree.N,ak,am,bC,ac,ae,ag,aE])
 have al:kind ≠ 8:=by simpa using ag
 refine qan [(0,.v (.int .i64 kind)),(1,.v (.slice A l.length c)),(2,.v (.bool null)),(3,.v (.int .i64 v)),(4,.v (.bool flex)),(11,.p 0 0),(16,.v (.int .i64 kind)),(45,.v (.bool (kind == 9)))] aa bw fun eR aL=>?_
 refine qau aL (b:=kind == 9) kz (fun ab=>?_) (fun ab=>?_)
 ·
  have ba:kind = 9:=by simpa using ab
  refine qad [0,1,2,3] kz ?_
  refine qah [0,1] [2,3] [(2,.v (.bool null)),(4,.v (.bool flex)),(48,.v (.slice A6 s2.length c7))] aa aL fun eS ce=>?_
  have dO:=qa4 s2
  refine qam (qai ce (f:=54) (vs:=[.slice A6 s2.length c7]) (d:=49) kz Tryd.call54 (qcI _ _ s2 (aY.move aa.step nilM aa.imm).le _) ?_)
  rintro e_ eU ⟨rfl,bf⟩
  refine ⟨_,rfl,fun eV cm=>?_⟩
  have af:=aa.next_nil bf
  have dY:=aa.frN bf
  refine qah [3] [] [(2,.v (.bool null)),(4,.v (.bool flex)),(15,.v (.slice A6 ((qax s2).length) c7))] af cm fun eW cq=>?_
  refine qae (qab ?_)
  refine wp_seq ?_
  refine qan [(2,.v (.bool null)),(4,.v (.bool flex)),(15,.v (.slice A6 ((qax s2).length) c7)),(50,.v (.bool null))] af cq fun eX aM=>?_
  refine qau aM (b:=null) kz (fun aO=>?_) (fun aO=>?_)
  ·
   refine qaw [0] kz ?_
   refine qah [0] [] [(2,.v (.bool null)),(4,.v (.bool flex)),(15,.v (.slice none 0 0))] af aM fun eY cr=>?_
   refine qae (qab ?_)
   refine qad [0,1,2,3,4,5,6,7] kz ?_
   refine qah [0,1,2,3] [4,5,6,7] [(15,.v (.slice none 0 0)),(51,.v (.bool flex)),(52,.v (.bool null)),(54,.v (.int .i64 0))] af cr fun eZ cu=>?_
   refine qam (qai cu (f:=108) (vs:=[.bool flex,.bool null,.int .i64 0,.int .i64 4]) (d:=55) kz Tryd.call108 (qcY flex null 0 4 (by first | omega | exact Nat.le_trans (qa4 _) (by decide) | exact Nat.le_trans (qbY _) (by decide) | (simp; done) | (have:=hroom; omega)) (by first | decide | omega) _) ?_)
   rintro e_ e9 ⟨aP,aQ,rfl,cw,cz⟩
   refine ⟨_,rfl,fun fa cA=>?_⟩
   obtain ⟨bg,dZ⟩:=af.frFresh cz (brow aP aQ 5 (qao flex null 0 4)) (Nat.le_refl _) cw
   refine qah [5] [6,7] [(55,.v (.slice aP ((qao flex null 0 4).length) aQ)),(56,.v (.slice none 0 0))] bg cA fun fb cB=>?_
   refine qam (qaW bg cB (k:=0) (d:=57) (t:=22) (e:=5) (size:=1) (bytes:=1) (A:=aP) (As:=none) (m0:=((qao flex null 0 4).length)) (c:=aQ) (m:=0) (cs:=0) (xs:=(bc (qao flex null 0 4))) (news:=bc ([]:Bs)) kz kz rfl (Octs.nil _ (fun _ _=>True)).src (fun _=>rfl) (by first | exact qcH (by omega) (by decide) (by omega) | exact qcH (Nat.le_trans (qa4 _) (by decide)) (by decide) (Nat.le_trans (qa4 _) (by decide)) | (simp; done)) fun aw ax fe ff d5 cC cD=>?_)
   have cE:(⟨aw,ax,5,1,(qao flex null 0 4).length + 0,bc (qao flex null 0 4) ++ bc ([]:Bs)⟩:Rw) = brow aw ax 5 (qao flex null 0 4 ++ ([]:Bs)):=qbq (rfl) rfl
   obtain ⟨aR,d6⟩:=cC.rowEq 0 [brow aw ax 5 (qao flex null 0 4 ++ ([]:Bs))] cE
   have cG:=EnvOk.pick cD (ks:=[55,56,57]) (env':=[(55,.v (.slice aP ((qao flex null 0 4).length) aQ)),(56,.v (.slice none 0 0)),(57,.v (.slice aw ((qao flex null 0 4).length + 0) ax))]) kz
   have cH:=cG.cast (env':=[(55,.v (.slice aP ((qao flex null 0 4).length) aQ)),(56,.v (.slice none 0 0)),(57,.v (.slice aw ((qao flex null 0 4 ++ ([]:Bs)).length) ax))]) (by simp only [List.length_append,List.length_cons,List.length_nil,Nat.zero_add])
   refine qah [7] [] [(12,.v (.slice aw ((qao flex null 0 4 ++ ([]:Bs)).length) ax))] aR cH fun fg cI=>?_
   refine qae (qab ?_)
   refine wp_ret ?_
   refine qaq ?_
   refine qal ?_
   refine qaD cI aR.cells (v:=.slice aw ((qao flex null 0 4 ++ ([]:Bs)).length) ax) kz ?_
   exact qa2 aR (k:=0) rfl (by (try simp only [and1]); simp [qaL,Tree.S,Tree.N,ak,am,al,ba,ac,ae,ag,ab,aO])
  refine wp_skip ?_
  refine qab ?_
  refine qad [0,1,2,3,4,5,6,7] kz ?_
  refine qah [0,1,2,3] [4,5,6,7] [(15,.v (.slice A6 ((qax s2).length) c7)),(51,.v (.bool flex)),(52,.v (.bool null)),(54,.v (.int .i64 (((qax s2).length:Nat):Int)))] af aM fun fh cJ=>?_
  refine qam (qai cJ (f:=108) (vs:=[.bool flex,.bool null,.int .i64 (((qax s2).length:Nat):Int),.int .i64 4]) (d:=55) kz Tryd.call108 (qcY flex null ((qax s2).length) 4 (by first | omega | exact Nat.le_trans (qa4 _) (by decide) | exact Nat.le_trans (qbY _) (by decide) | (simp; done) | (have:=hroom; omega)) (by first | decide | omega) _) ?_)
  rintro e_ fi ⟨aS,aT,rfl,cK,cL⟩
  refine ⟨_,rfl,fun fj cM=>?_⟩
  obtain ⟨ai,d7⟩:=af.frFresh cL (brow aS aT 5 (qao flex null ((qax s2).length) 4)) (Nat.le_refl _) cK
  refine qah [5] [6,7] [(55,.v (.slice aS ((qao flex null ((qax s2).length) 4).length) aT)),(56,.v (.slice A6 ((qax s2).length) c7))] ai cM fun fk cN=>?_
  refine qam (qaW ai cN (k:=0) (d:=57) (t:=22) (e:=5) (size:=1) (bytes:=1) (A:=aS) (As:=A6) (m0:=((qao flex null ((qax s2).length) 4).length)) (c:=aT) (m:=((qax s2).length)) (cs:=c7) (xs:=(bc (qao flex null ((qax s2).length) 4))) (news:=bc (qax s2)) kz kz rfl ((aY.take 32767).move ai.step nilM ai.imm).src ((aY.take 32767).move ai.step nilM ai.imm).cap (by first | exact qcH (by omega) (by decide) (by omega) | exact qcH (Nat.le_trans (qa4 _) (by decide)) (by decide) (Nat.le_trans (qa4 _) (by decide)) | (simp; done)) fun ay az fl fm d8 cO cP=>?_)
  have cQ:(⟨ay,az,5,1,(qao flex null ((qax s2).length) 4).length + (qax s2).length,bc (qao flex null ((qax s2).length) 4) ++ bc (qax s2)⟩:Rw) = brow ay az 5 (qao flex null ((qax s2).length) 4 ++ (qax s2)):=qbq (rfl) rfl
  obtain ⟨aU,d9⟩:=cO.rowEq 0 [brow ay az 5 (qao flex null ((qax s2).length) 4 ++ (qax s2))] cQ
  have cR:=EnvOk.pick cP (ks:=[55,56,57]) (env':=[(55,.v (.slice aS ((qao flex null ((qax s2).length) 4).length) aT)),(56,.v (.slice A6 ((qax s2).length) c7)),(57,.v (.slice ay ((qao flex null ((qax s2).length) 4).length + (qax s2).length) az))]) kz
  have cS:=cR.cast (env':=[(55,.v (.slice aS ((qao flex null ((qax s2).length) 4).length) aT)),(56,.v (.slice A6 ((qax s2).length) c7)),(57,.v (.slice ay ((qao flex null ((qax s2).length) 4 ++ (qax s2)).length) az))]) (by simp only [List.length_append,List.length_cons,List.length_nil,Nat.zero_add])
  refine qah [7] [] [(12,.v (.slice ay ((qao flex null ((qax s2).length) 4 ++ (qax s2)).length) az))] aU cS fun fo cT=>?_
  refine qae (qab ?_)
  refine wp_ret ?_
  refine qaq ?_
  refine qal ?_
  refine qaD cT aU.cells (v:=.slice ay ((qao flex null ((qax s2).length) 4 ++ (qax s2)).length) az) kz ?_
  exact qa2 aU (k:=0) rfl (by (try simp only [and1]); simp [qaL,Tree.S,Tree.N,ak,am,al,ba,ac,ae,ag,ab,aO])
 have aV:kind ≠ 9:=by simpa using ab
 refine qan [(0,.v (.int .i64 kind)),(1,.v (.slice A l.length c)),(3,.v (.int .i64 v)),(4,.v (.bool flex)),(11,.p 0 0),(58,.v (.bool (kind == 10)))] aa aL fun fq aW=>?_
 refine qau aW (b:=kind == 10) kz (fun aj=>?_) (fun aj=>?_)
 ·
  have bh:kind = 10:=by simpa using aj
  refine qad [0,1,2,3,4,5] kz ?_
  refine qah [0,1,2,3] [4,5] [(60,.v (.slice A l.length c)),(61,.v (.int .i64 v)),(62,.v (.bool flex)),(63,.v (.agg #[.int .i64 n1,.slice A6 s2.length c7,.bool b3,.slice A8 l4.length c9,.slice dj u5.length dl]))] aa aW fun fr cU=>?_
  refine qam (qai cU (f:=57) (vs:=[.slice A l.length c,.int .i64 v,.bool flex,.agg #[.int .i64 n1,.slice A6 s2.length c7,.bool b3,.slice A8 l4.length c9,.slice dj u5.length dl]]) (d:=64) kz Tryd.call57 (hp _ _ l v flex _ (Tree.mk n1 s2 b3 l4 u5) _ _ ⟨xfs,(h1.move aa.step nilM aa.imm),(fun i_ x_ h_=>((h2 i_ x_ h_).move aa.step nilM aa.imm))⟩ hd (ht.move aa.step nilM aa.imm) (by simpa [qaL,ak,am,al,aV,bh,ac,ae,ag,ab,aj] using hroom)) ?_)
  rintro e_ ft ⟨bx,bz,rfl,cV,cW⟩
  refine ⟨_,rfl,fun fu cX=>?_⟩
  obtain ⟨aX,ea⟩:=aa.frFresh cW (brow bx bz 5 (qaR d l v flex (Tree.mk n1 s2 b3 l4 u5))) (Nat.le_refl _) cV
  refine qah [5] [] [(12,.v (.slice bx ((qaR d l v flex (Tree.mk n1 s2 b3 l4 u5)).length) bz))] aX cX fun fv cY=>?_
  refine qae (qab ?_)
  refine wp_ret ?_
  refine qaq ?_
  refine qal ?_
  refine qaD cY aX.cells (v:=.slice bx ((qaR d l v flex (Tree.mk n1 s2 b3 l4 u5)).length) bz) kz ?_
  exact qa2 aX (k:=0) rfl (by (try simp only [and1]); simp [qaL,Tree.S,Tree.N,ak,am,al,aV,bh,ac,ae,ag,ab,aj])
 have cZ:kind ≠ 10:=by simpa using aj
 refine wp_skip ?_
 refine qar ?_
 refine qab ?_
 refine qaI 5 kz aa fun fw eb bi c5=>?_
 refine qaH [0,1,2] [(66,.v (.int .i64 n1)),(67,.v (.int .i64 kind))] 3 (qaa qaf) (fun _ h=>h.cells) c5 aW fun fx c6=>?_
 refine qaA (i:=3) kz (qai c6 (f:=72) (vs:=[.int .i64 kind]) (d:=68) kz Tryd.call72 (qhj kind _) ?_)
 rintro e_ fy ⟨rfl,bj⟩
 refine ⟨_,rfl,fun fz da=>?_⟩
 have bk:=bi.next_nil bj
 have bn:=bi.frN bj
 have db:=TT.ofW bn bk
 refine ⟨fun _=>db,?_⟩
 refine qaA (i:=4) kz (qai da (f:=28) (vs:=[.int .i64 n1,.int .i64 ((qbe kind:Nat):Int)]) (d:=69) kz Tryd.call28 (qdA n1 (qbe kind) (by first | decide | exact qbb _ | omega) _) ?_)
 rintro e_ fA ⟨bA,bB,rfl,dc,de⟩
 refine ⟨_,rfl,fun fB df=>?_⟩
 obtain ⟨aA,dg⟩:=bk.frFresh de (brow bA bB 5 (be (qbe kind) n1)) (Nat.le_refl _) dc
 have dh:=TT.ofW (bn.trans dg) aA
 refine ⟨fun _=>dh,?_⟩
 refine qaA (i:=5) kz (qa6 [12] aA.cells df (env':=[(12,.v (.slice bA ((be (qbe kind) n1).length) bB))]) kz fun fC di=>?_)
 refine ⟨fun h=>absurd rfl h,?_⟩
 refine qaG kz ?_ _
 refine qab ?_
 refine wp_ret ?_
 refine qaD di aA.cells (v:=.slice bA ((be (qbe kind) n1).length) bB) kz ?_
 exact qa2 aA (k:=0) rfl (by (try simp only [and1]); simp [qaL,Tree.S,Tree.N,ak,am,al,aV,cZ,ac,ae,ag,ab,aj])
theorem qjn {d:Nat} (hp:qhk d) (cf:List Value) (f:Fld) (v:Int) (flex:Bool) (ct:List Value) (t:Tree) (w:World) (F:Nat → Nat → Prop) (hf:FldR w F cf f) (hd:depths f.sub ≤ d) (ht:TreeR w F ct t) (hroom:(qbX d f v flex t).length ≤ 1099511627776) :
  Calls Tryd.prog 82 #[.agg cf.toArray,.int .i64 v,.bool flex,.agg ct.toArray] w (qcF w 5 (qbX d f v flex t)):=by
 obtain ⟨n1,s2,b3,l4,u5,A6,c7,A8,c9,aK,aL,fb,rfl,rfl,fe,dZ,ff,gt⟩:=ht.open_
 have eB:=fe.small
 have eC:=dZ.small
 obtain ⟨ac,af,ag,ae,ah,ai,ab,aa,ay,az,bz,rfl,rfl,ce,dY⟩:=hf.open_
 have eD:=ce.small
 refine enter (n:=76) Tryd.func82 rfl Tryd.ntmps82 kz fun a hE=>?_
 have hW:=WOk.start w Nil
 refine qad [0,1,2] kz ?_
 refine qam (qaY hW hE (d:=4) (cs:=[.int .i64 ac,.int .i64 af,.int .i64 ag,.int .i64 ae,.int .i64 ah,.int .i64 ai,.int .i64 ab,.slice ay aa.length az]) kz fun eE gv gw fg fh fi d5 d6=>?_)
 refine qam (qaY d5 d6 (d:=7) (cs:=[.int .i64 n1,.slice A6 s2.length c7,.bool b3,.slice A8 l4.length c9,.slice aK u5.length aL]) kz fun eF gx gy fj fk fl bA d7=>?_)
 refine qah [2] [] [(1,.v (.int .i64 v)),(2,.v (.bool flex)),(4,.p 0 0),(7,.p 1 0)] bA d7 fun gz d8=>?_
 refine qae (qab ?_)
 refine qad [0,1,2,3,4] kz ?_
 refine qah [0,1,2] [3,4] [(1,.v (.int .i64 v)),(2,.v (.bool flex)),(4,.p 0 0),(7,.p 1 0),(13,.v (.agg #[.int .i64 ac,.int .i64 af,.int .i64 ag,.int .i64 ae,.int .i64 ah,.int .i64 ai,.int .i64 ab,.slice ay aa.length az])),(14,.v (.int .i64 v)),(15,.v (.agg #[.int .i64 n1,.slice A6 s2.length c7,.bool b3,.slice A8 l4.length c9,.slice aK u5.length aL]))] bA d8 fun gA d9=>?_
 refine qam (qai d9 (f:=73) (vs:=[.agg #[.int .i64 ac,.int .i64 af,.int .i64 ag,.int .i64 ae,.int .i64 ah,.int .i64 ai,.int .i64 ab,.slice ay aa.length az],.int .i64 v,.agg #[.int .i64 n1,.slice A6 s2.length c7,.bool b3,.slice A8 l4.length c9,.slice aK u5.length aL]]) (d:=16) kz Tryd.call73 (qiP ac af ag ae ah ai ab aa _ _ v n1 s2 b3 l4 u5 _ _ _ _ _ _ _) ?_)
 rintro e_ gB ⟨rfl,cm⟩
 refine ⟨_,rfl,fun gC ea=>?_⟩
 have aj:=bA.next_nil cm
 have fm:=bA.frN cm
 refine qah [4] [] [(1,.v (.int .i64 v)),(2,.v (.bool flex)),(4,.p 0 0),(7,.p 1 0),(9,.v (.bool (Fld.nul (Fld.mk ac af ag ae ah ai ab aa) v (Tree.mk n1 s2 b3 l4 u5))))] aj ea fun gD eb=>?_
 refine qae (qab ?_)
 refine wp_seq ?_
 refine qan [(1,.v (.int .i64 v)),(2,.v (.bool flex)),(4,.p 0 0),(7,.p 1 0),(9,.v (.bool (Fld.nul (Fld.mk ac af ag ae ah ai ab aa) v (Tree.mk n1 s2 b3 l4 u5)))),(19,.v (.bool (ac == 11)))] aj eb fun gE bO=>?_
 refine qau bO (b:=ac == 11) kz (fun bP=>?_) (fun bP=>?_)
 ·
  have fo:ac = 11:=by simpa using bP
  refine qad [0,1,2,3] kz ?_
  refine qah [0,1] [2,3] [(1,.v (.int .i64 v)),(2,.v (.bool flex)),(4,.p 0 0),(9,.v (.bool (Fld.nul (Fld.mk ac af ag ae ah ai ab aa) v (Tree.mk n1 s2 b3 l4 u5)))),(21,.v (.slice A8 l4.length c9))] aj bO fun gF ec=>?_
  refine qam (qai ec (f:=74) (vs:=[.slice A8 l4.length c9]) (d:=22) kz Tryd.call74 (qeC _ _ l4 (dZ.move aj.step nilM aj.imm).le _) ?_)
  rintro e_ gG ⟨rfl,cq⟩
  refine ⟨_,rfl,fun gH ee=>?_⟩
  have aB:=aj.next_nil cq
  have fq:=aj.frN cq
  refine qah [3] [] [(1,.v (.int .i64 v)),(2,.v (.bool flex)),(4,.p 0 0),(9,.v (.bool (Fld.nul (Fld.mk ac af ag ae ah ai ab aa) v (Tree.mk n1 s2 b3 l4 u5)))),(10,.v (.slice A8 ((qak l4).length) c9))] aB ee fun gI ef=>?_
  refine qae (qab ?_)
  refine wp_seq ?_
  refine qan [(1,.v (.int .i64 v)),(2,.v (.bool flex)),(4,.p 0 0),(9,.v (.bool (Fld.nul (Fld.mk ac af ag ae ah ai ab aa) v (Tree.mk n1 s2 b3 l4 u5)))),(10,.v (.slice A8 ((qak l4).length) c9)),(23,.v (.bool (Fld.nul (Fld.mk ac af ag ae ah ai ab aa) v (Tree.mk n1 s2 b3 l4 u5))))] aB ef fun gJ bQ=>?_
  refine qau bQ (b:=Fld.nul (Fld.mk ac af ag ae ah ai ab aa) v (Tree.mk n1 s2 b3 l4 u5)) kz (fun eg=>?_) (fun eg=>?_)
  ·
   refine qaw [0] kz ?_
   refine qah [0] [] [(1,.v (.int .i64 v)),(2,.v (.bool flex)),(4,.p 0 0),(9,.v (.bool (Fld.nul (Fld.mk ac af ag ae ah ai ab aa) v (Tree.mk n1 s2 b3 l4 u5)))),(10,.v (.slice none 0 0))] aB bQ fun gK eh=>?_
   refine qae (qab ?_)
   refine qad [0,1,2,3,4,5] kz ?_
   refine qah [0,1,2,3] [4,5] [(1,.v (.int .i64 v)),(2,.v (.bool flex)),(4,.p 0 0),(10,.v (.slice none 0 0)),(24,.v (.bool flex)),(25,.v (.bool (Fld.nul (Fld.mk ac af ag ae ah ai ab aa) v (Tree.mk n1 s2 b3 l4 u5)))),(27,.v (.int .i64 0))] aB eh fun gL ei=>?_
   refine qam (qai ei (f:=108) (vs:=[.bool flex,.bool (Fld.nul (Fld.mk ac af ag ae ah ai ab aa) v (Tree.mk n1 s2 b3 l4 u5)),.int .i64 0,.int .i64 4]) (d:=28) kz Tryd.call108 (qcY flex (Fld.nul (Fld.mk ac af ag ae ah ai ab aa) v (Tree.mk n1 s2 b3 l4 u5)) 0 4 (by first | omega | exact Nat.le_trans (qa4 _) (by decide) | exact Nat.le_trans (qbY _) (by decide) | (simp; done) | (have:=hroom; omega)) (by first | decide | omega) _) ?_)
   rintro e_ gM ⟨b8,cd,rfl,ej,ek⟩
   refine ⟨_,rfl,fun gN em=>?_⟩
   obtain ⟨bR,fr⟩:=aB.frFresh ek (brow b8 cd 5 (qao flex (Fld.nul (Fld.mk ac af ag ae ah ai ab aa) v (Tree.mk n1 s2 b3 l4 u5)) 0 4)) (Nat.le_refl _) ej
   refine qah [5] [] [(1,.v (.int .i64 v)),(2,.v (.bool flex)),(4,.p 0 0),(10,.v (.slice none 0 0)),(11,.v (.slice b8 ((qao flex (Fld.nul (Fld.mk ac af ag ae ah ai ab aa) v (Tree.mk n1 s2 b3 l4 u5)) 0 4).length) cd))] bR em fun gO eo=>?_
   refine qae (qab ?_)
   refine wp_seq ?_
   refine qan [(1,.v (.int .i64 v)),(2,.v (.bool flex)),(4,.p 0 0),(10,.v (.slice none 0 0)),(11,.v (.slice b8 ((qao flex (Fld.nul (Fld.mk ac af ag ae ah ai ab aa) v (Tree.mk n1 s2 b3 l4 u5)) 0 4).length) cd)),(30,.v (.int .i64 0)),(31,.v (.int .i64 0))] bR eo fun gP cr=>?_
   refine wp_block ?_
   have hr2:(qao flex (Fld.nul (Fld.mk ac af ag ae ah ai ab aa) v (Tree.mk n1 s2 b3 l4 u5)) 0 4 ++ ([]:List Tree).flatMap (qaL (qaR d aa v flex) ab false flex)).length ≤ 1099511627776:=by have h_:=hroom; rw [qec ‹_› ‹_›] at h_; exact h_
   rw [List.length_append] at hr2
   have hr3:=qbZ ([]:List Tree) (qaL (qaR d aa v flex) ab false flex)
   have cu:(qao flex (Fld.nul (Fld.mk ac af ag ae ah ai ab aa) v (Tree.mk n1 s2 b3 l4 u5)) 0 4) = (qao flex (Fld.nul (Fld.mk ac af ag ae ah ai ab aa) v (Tree.mk n1 s2 b3 l4 u5)) 0 4 ++ (([]:List Tree).take 0).flatMap (qaL (qaR d aa v flex) ab false flex)):=by simp
   have cw:=congrArg (brow b8 cd 5) cu
   obtain ⟨bD,eG⟩:=bR.rowEq 0 [brow b8 cd 5 (qao flex (Fld.nul (Fld.mk ac af ag ae ah ai ab aa) v (Tree.mk n1 s2 b3 l4 u5)) 0 4 ++ (([]:List Tree).take 0).flatMap (qaL (qaR d aa v flex) ab false flex))] cw
   rw [cu] at cr
   refine wp_loop_ghost (fun n_ a_ w_=>∃ (k:Nat) (A_:Option Addr) (c_:Nat),n_ = 0 - k ∧ k ≤ 0 ∧ LInv bD 76 [⟨eE,0,[.int .i64 ac,.int .i64 af,.int .i64 ag,.int .i64 ae,.int .i64 ah,.int .i64 ai,.int .i64 ab,.slice ay aa.length az],true⟩,⟨eF,0,[.int .i64 n1,.slice A6 s2.length c7,.bool b3,.slice A8 l4.length c9,.slice aK u5.length aL],true⟩] [brow A_ c_ 5 (qao flex (Fld.nul (Fld.mk ac af ag ae ah ai ab aa) v (Tree.mk n1 s2 b3 l4 u5)) 0 4 ++ (([]:List Tree).take k).flatMap (qaL (qaR d aa v flex) ab false flex))] [(1,.v (.int .i64 v)),(2,.v (.bool flex)),(4,.p 0 0),(10,.v (.slice none 0 0)),(11,.v (.slice A_ ((qao flex (Fld.nul (Fld.mk ac af ag ae ah ai ab aa) v (Tree.mk n1 s2 b3 l4 u5)) 0 4 ++ (([]:List Tree).take k).flatMap (qaL (qaR d aa v flex) ab false flex)).length) c_)),(30,.v (.int .i64 0)),(31,.v (.int .i64 ((k:Nat):Int)))] a_ w_) (0) ⟨0,b8,cd,by omega,by omega,cr.pk,bD,Fr.refl _ _ _⟩ ?_
   rintro ft fu fv ⟨k,A_,c_,eH,eI,cz,aE,eJ⟩
   refine qan [(1,.v (.int .i64 v)),(2,.v (.bool flex)),(4,.p 0 0),(10,.v (.slice none 0 0)),(11,.v (.slice A_ ((qao flex (Fld.nul (Fld.mk ac af ag ae ah ai ab aa) v (Tree.mk n1 s2 b3 l4 u5)) 0 4 ++ (([]:List Tree).take k).flatMap (qaL (qaR d aa v flex) ab false flex)).length) c_)),(30,.v (.int .i64 0)),(31,.v (.int .i64 ((k:Nat):Int))),(32,.v (.bool (decide (((k:Nat):Int) < 0))))] aE cz fun fw bE=>?_
   refine wp_seq ?_
   refine qap bE (b:=decide (((k:Nat):Int) < 0)) kz (decide_eq_false (by omega)) ?_
   refine wp_exit ?_
   refine qaB ?_
   refine qaB ?_
   refine qaQ ?_
   refine qab ?_
   refine qan [(8,.v (.slice A_ ((qao flex (Fld.nul (Fld.mk ac af ag ae ah ai ab aa) v (Tree.mk n1 s2 b3 l4 u5)) 0 4 ++ (([]:List Tree).take k).flatMap (qaL (qaR d aa v flex) ab false flex)).length) c_))] aE bE fun fx cA=>?_
   refine wp_ret ?_
   refine qal ?_
   refine qaD cA aE.cells (v:=.slice A_ ((qao flex (Fld.nul (Fld.mk ac af ag ae ah ai ab aa) v (Tree.mk n1 s2 b3 l4 u5)) 0 4 ++ (([]:List Tree).take k).flatMap (qaL (qaR d aa v flex) ab false flex)).length) c_) kz ?_
   exact qa2 aE (k:=0) rfl (by rw [qec ‹_› ‹_›]; simp)
  refine wp_skip ?_
  refine qab ?_
  refine qad [0,1,2,3,4,5] kz ?_
  refine qah [0,1,2,3] [4,5] [(1,.v (.int .i64 v)),(2,.v (.bool flex)),(4,.p 0 0),(10,.v (.slice A8 ((qak l4).length) c9)),(24,.v (.bool flex)),(25,.v (.bool (Fld.nul (Fld.mk ac af ag ae ah ai ab aa) v (Tree.mk n1 s2 b3 l4 u5)))),(27,.v (.int .i64 (((qak l4).length:Nat):Int)))] aB bQ fun fy cB=>?_
  refine qam (qai cB (f:=108) (vs:=[.bool flex,.bool (Fld.nul (Fld.mk ac af ag ae ah ai ab aa) v (Tree.mk n1 s2 b3 l4 u5)),.int .i64 (((qak l4).length:Nat):Int),.int .i64 4]) (d:=28) kz Tryd.call108 (qcY flex (Fld.nul (Fld.mk ac af ag ae ah ai ab aa) v (Tree.mk n1 s2 b3 l4 u5)) ((qak l4).length) 4 (by first | omega | exact Nat.le_trans (qa4 _) (by decide) | exact Nat.le_trans (qbY _) (by decide) | (simp; done) | (have:=hroom; omega)) (by first | decide | omega) _) ?_)
  rintro e_ fz ⟨aM,aO,rfl,cC,cD⟩
  refine ⟨_,rfl,fun fA cE=>?_⟩
  obtain ⟨aP,eK⟩:=aB.frFresh cD (brow aM aO 5 (qao flex (Fld.nul (Fld.mk ac af ag ae ah ai ab aa) v (Tree.mk n1 s2 b3 l4 u5)) ((qak l4).length) 4)) (Nat.le_refl _) cC
  refine qah [5] [] [(1,.v (.int .i64 v)),(2,.v (.bool flex)),(4,.p 0 0),(10,.v (.slice A8 ((qak l4).length) c9)),(11,.v (.slice aM ((qao flex (Fld.nul (Fld.mk ac af ag ae ah ai ab aa) v (Tree.mk n1 s2 b3 l4 u5)) ((qak l4).length) 4).length) aO))] aP cE fun fB cG=>?_
  refine qae (qab ?_)
  refine wp_seq ?_
  refine qan [(1,.v (.int .i64 v)),(2,.v (.bool flex)),(4,.p 0 0),(10,.v (.slice A8 ((qak l4).length) c9)),(11,.v (.slice aM ((qao flex (Fld.nul (Fld.mk ac af ag ae ah ai ab aa) v (Tree.mk n1 s2 b3 l4 u5)) ((qak l4).length) 4).length) aO)),(30,.v (.int .i64 (((qak l4).length:Nat):Int))),(31,.v (.int .i64 0))] aP cG fun fC bF=>?_
  refine wp_block ?_
  have hr2:(qao flex (Fld.nul (Fld.mk ac af ag ae ah ai ab aa) v (Tree.mk n1 s2 b3 l4 u5)) ((qak l4).length) 4 ++ (qak l4).flatMap (qaL (qaR d aa v flex) ab false flex)).length ≤ 1099511627776:=by have h_:=hroom; rw [qeX ‹_› ‹_›] at h_; exact h_
  rw [List.length_append] at hr2
  have hr3:=qbZ (qak l4) (qaL (qaR d aa v flex) ab false flex)
  have hsm3:(qak l4).length ≤ 32767:=by simp only [qak,List.length_take]; omega
  have bG:(qao flex (Fld.nul (Fld.mk ac af ag ae ah ai ab aa) v (Tree.mk n1 s2 b3 l4 u5)) ((qak l4).length) 4) = (qao flex (Fld.nul (Fld.mk ac af ag ae ah ai ab aa) v (Tree.mk n1 s2 b3 l4 u5)) ((qak l4).length) 4 ++ ((qak l4).take 0).flatMap (qaL (qaR d aa v flex) ab false flex)):=by simp
  have cH:=congrArg (brow aM aO 5) bG
  obtain ⟨bH,eL⟩:=aP.rowEq 0 [brow aM aO 5 (qao flex (Fld.nul (Fld.mk ac af ag ae ah ai ab aa) v (Tree.mk n1 s2 b3 l4 u5)) ((qak l4).length) 4 ++ ((qak l4).take 0).flatMap (qaL (qaR d aa v flex) ab false flex))] cH
  rw [bG] at bF
  refine wp_loop_ghost (fun n_ a_ w_=>∃ (k:Nat) (A_:Option Addr) (c_:Nat),n_ = (qak l4).length - k ∧ k ≤ (qak l4).length ∧ LInv bH 76 [⟨eE,0,[.int .i64 ac,.int .i64 af,.int .i64 ag,.int .i64 ae,.int .i64 ah,.int .i64 ai,.int .i64 ab,.slice ay aa.length az],true⟩,⟨eF,0,[.int .i64 n1,.slice A6 s2.length c7,.bool b3,.slice A8 l4.length c9,.slice aK u5.length aL],true⟩] [brow A_ c_ 5 (qao flex (Fld.nul (Fld.mk ac af ag ae ah ai ab aa) v (Tree.mk n1 s2 b3 l4 u5)) ((qak l4).length) 4 ++ ((qak l4).take k).flatMap (qaL (qaR d aa v flex) ab false flex))] [(1,.v (.int .i64 v)),(2,.v (.bool flex)),(4,.p 0 0),(10,.v (.slice A8 ((qak l4).length) c9)),(11,.v (.slice A_ ((qao flex (Fld.nul (Fld.mk ac af ag ae ah ai ab aa) v (Tree.mk n1 s2 b3 l4 u5)) ((qak l4).length) 4 ++ ((qak l4).take k).flatMap (qaL (qaR d aa v flex) ab false flex)).length) c_)),(30,.v (.int .i64 (((qak l4).length:Nat):Int))),(31,.v (.int .i64 ((k:Nat):Int)))] a_ w_) ((qak l4).length) ⟨0,aM,aO,by omega,by omega,bF.pk,bH,Fr.refl _ _ _⟩ ?_
  rintro fD fE fF ⟨k,A_,c_,eM,eN,cI,ax,cJ⟩
  refine qan [(1,.v (.int .i64 v)),(2,.v (.bool flex)),(4,.p 0 0),(10,.v (.slice A8 ((qak l4).length) c9)),(11,.v (.slice A_ ((qao flex (Fld.nul (Fld.mk ac af ag ae ah ai ab aa) v (Tree.mk n1 s2 b3 l4 u5)) ((qak l4).length) 4 ++ ((qak l4).take k).flatMap (qaL (qaR d aa v flex) ab false flex)).length) c_)),(30,.v (.int .i64 (((qak l4).length:Nat):Int))),(31,.v (.int .i64 ((k:Nat):Int))),(32,.v (.bool (decide (((k:Nat):Int) < (((qak l4).length:Nat):Int)))))] ax cI fun fG aQ=>?_
  refine wp_seq ?_
  refine qau aQ (b:=decide (((k:Nat):Int) < (((qak l4).length:Nat):Int))) kz (fun aR=>?_) (fun aR=>?_)
  ·
   have eO:=of_decide_eq_true aR
   refine wp_skip ?_
   refine qab ?_
   refine wp_seq ?_
   refine wp_block ?_
   refine qan [(1,.v (.int .i64 v)),(2,.v (.bool flex)),(4,.p 0 0),(10,.v (.slice A8 ((qak l4).length) c9)),(11,.v (.slice A_ ((qao flex (Fld.nul (Fld.mk ac af ag ae ah ai ab aa) v (Tree.mk n1 s2 b3 l4 u5)) ((qak l4).length) 4 ++ ((qak l4).take k).flatMap (qaL (qaR d aa v flex) ab false flex)).length) c_)),(12,.v (.int .i64 ((k:Nat):Int))),(30,.v (.int .i64 (((qak l4).length:Nat):Int))),(31,.v (.int .i64 ((k:Nat):Int)))] ax aQ fun fH cK=>?_
   refine qet 13 kz ax fun fI cL ar aS=>?_
   refine qaH [0,1,2,3,4,5,6,7,8] [(1,.v (.int .i64 v)),(2,.v (.bool flex)),(4,.p 0 0),(10,.v (.slice A8 ((qak l4).length) c9)),(11,.v (.slice A_ ((qao flex (Fld.nul (Fld.mk ac af ag ae ah ai ab aa) v (Tree.mk n1 s2 b3 l4 u5)) ((qak l4).length) 4 ++ ((qak l4).take k).flatMap (qaL (qaR d aa v flex) ab false flex)).length) c_)),(30,.v (.int .i64 (((qak l4).length:Nat):Int))),(31,.v (.int .i64 ((k:Nat):Int))),(34,.v (.slice A_ ((qao flex (Fld.nul (Fld.mk ac af ag ae ah ai ab aa) v (Tree.mk n1 s2 b3 l4 u5)) ((qak l4).length) 4 ++ ((qak l4).take k).flatMap (qaL (qaR d aa v flex) ab false flex)).length) c_)),(36,.v (.int .i64 ab)),(38,.v (.slice ay aa.length az)),(39,.v (.int .i64 v)),(40,.v (.bool flex)),(41,.v (.slice A8 ((qak l4).length) c9)),(42,.v (.int .i64 ((k:Nat):Int)))] 5 (qac (qaa (qaa (qac (qaa (qaa qaf)))))) (fun _ h=>h.cells) aS cK fun fJ cM=>?_
   obtain ⟨bS,bT,cN,eP,aT⟩:=Slots.get (qb7 dZ) (i:=k) (by omega)
   obtain ⟨ep,aF⟩:∃ x,(qak l4)[k]? = some x:=⟨_,List.getElem?_eq_getElem (by omega)⟩
   have aU:=(qco ff) k ep aF
   obtain ⟨ak,al,am,ao,ap,aV,aW,aX,aY,aZ,ba,eQ,rfl,bf,eu,ew,fK,fL⟩:=aU.open_
   rw [bf] at aU
   have ey:=eu.small
   have ez:=ew.small
   rw [bf] at aT
   refine qaJ cM (i:=9) (t:=34) (A:=A8) (m:=((qak l4).length)) (q:=((k:Nat):Int)) (d:=43) kz (e:=37) (size:=5) (bytes:=88) kz cN rfl (by omega) kz kz (qac (qaa (qaa (qac (qaa (qaa qaf)))))) aS fun fM cO=>?_
   refine qaP cO (i:=10) (t:=37) (b:=bS) (o:=bT + k * 5) (d:=44) kz (cs:=[.int .i64 ak,.slice aV al.length aW,.bool am,.slice aX ao.length aY,.slice aZ ap.length ba]) (v:=.agg #[.int .i64 ak,.slice aV al.length aW,.bool am,.slice aX ao.length aY,.slice aZ ap.length ba]) kz (fun w' h'=>(AtF.move aT (TT.step0 ar h') nilM qaZ).at_) kz kz (qac (qaa (qaa (qac (qaa (qaa qaf)))))) aS fun fN cP=>?_
   refine qaA (i:=11) kz (qai cP (f:=109) (vs:=[.int .i64 ab,.slice ay aa.length az,.bool false,.int .i64 v,.bool flex,.agg #[.int .i64 ak,.slice aV al.length aW,.bool am,.slice aX ao.length aY,.slice aZ ap.length ba]]) (d:=45) kz Tryd.call109 (qhl hp ab _ _ aa false v flex _ (Tree.mk ak al am ao ap) _ _ ⟨bz,(ce.move ar.step nilM ar.imm),(fun i_ x_ h_=>((dY i_ x_ h_).move ar.step nilM ar.imm))⟩ hd (aU.move ar.step nilM ar.imm) (by have:=qeb (g:=qaL (qaR d aa v flex) ab false flex) aF; omega)) ?_)
   rintro e_ fO ⟨bg,bh,rfl,cQ,cR⟩
   refine ⟨_,rfl,fun fP cS=>?_⟩
   obtain ⟨aG,bi⟩:=ar.frFresh cR (brow bg bh 5 (qaL (qaR d aa v flex) ab false flex (Tree.mk ak al am ao ap))) (Nat.le_refl _) cQ
   have cT:=TT.ofW bi aG
   refine ⟨fun _=>cT,?_⟩
   refine qaA (i:=12) kz (qaW aG cS (k:=0) (d:=46) (t:=22) (e:=5) (size:=1) (bytes:=1) (A:=A_) (As:=bg) (m0:=((qao flex (Fld.nul (Fld.mk ac af ag ae ah ai ab aa) v (Tree.mk n1 s2 b3 l4 u5)) ((qak l4).length) 4 ++ ((qak l4).take k).flatMap (qaL (qaR d aa v flex) ab false flex)).length)) (c:=c_) (m:=((qaL (qaR d aa v flex) ab false flex (Tree.mk ak al am ao ap)).length)) (cs:=bh) (xs:=(bc (qao flex (Fld.nul (Fld.mk ac af ag ae ah ai ab aa) v (Tree.mk n1 s2 b3 l4 u5)) ((qak l4).length) 4 ++ ((qak l4).take k).flatMap (qaL (qaR d aa v flex) ab false flex)))) (news:=bc (qaL (qaR d aa v flex) ab false flex (Tree.mk ak al am ao ap))) kz kz rfl (qbB (aG.own 1 _ rfl) (qch _)) (qbN (aG.own 1 _ rfl)) (by rw [List.length_append]; have h8_:=hr3 k; have h9_:=qeb (g:=qaL (qaR d aa v flex) ab false flex) aF; omega) fun av aw fQ fR bI cU cV=>?_)
   have cW:(⟨av,aw,5,1,(qao flex (Fld.nul (Fld.mk ac af ag ae ah ai ab aa) v (Tree.mk n1 s2 b3 l4 u5)) ((qak l4).length) 4 ++ ((qak l4).take k).flatMap (qaL (qaR d aa v flex) ab false flex)).length + (qaL (qaR d aa v flex) ab false flex (Tree.mk ak al am ao ap)).length,bc (qao flex (Fld.nul (Fld.mk ac af ag ae ah ai ab aa) v (Tree.mk n1 s2 b3 l4 u5)) ((qak l4).length) 4 ++ ((qak l4).take k).flatMap (qaL (qaR d aa v flex) ab false flex)) ++ bc (qaL (qaR d aa v flex) ab false flex (Tree.mk ak al am ao ap))⟩:Rw) = brow av aw 5 (qao flex (Fld.nul (Fld.mk ac af ag ae ah ai ab aa) v (Tree.mk n1 s2 b3 l4 u5)) ((qak l4).length) 4 ++ ((qak l4).take k).flatMap (qaL (qaR d aa v flex) ab false flex) ++ (qaL (qaR d aa v flex) ab false flex (Tree.mk ak al am ao ap))):=qbq (rfl) rfl
   obtain ⟨aH,bJ⟩:=cU.rowEq 0 [brow av aw 5 (qao flex (Fld.nul (Fld.mk ac af ag ae ah ai ab aa) v (Tree.mk n1 s2 b3 l4 u5)) ((qak l4).length) 4 ++ ((qak l4).take k).flatMap (qaL (qaR d aa v flex) ab false flex) ++ (qaL (qaR d aa v flex) ab false flex (Tree.mk ak al am ao ap))),brow bg bh 5 (qaL (qaR d aa v flex) ab false flex (Tree.mk ak al am ao ap))] cW
   have cX:=EnvOk.pick cV (ks:=[1,2,4,10,11,30,31,34,36,38,39,40,41,42,43,44,45,46]) (env':=[(1,.v (.int .i64 v)),(2,.v (.bool flex)),(4,.p 0 0),(10,.v (.slice A8 ((qak l4).length) c9)),(11,.v (.slice A_ ((qao flex (Fld.nul (Fld.mk ac af ag ae ah ai ab aa) v (Tree.mk n1 s2 b3 l4 u5)) ((qak l4).length) 4 ++ ((qak l4).take k).flatMap (qaL (qaR d aa v flex) ab false flex)).length) c_)),(30,.v (.int .i64 (((qak l4).length:Nat):Int))),(31,.v (.int .i64 ((k:Nat):Int))),(34,.v (.slice A_ ((qao flex (Fld.nul (Fld.mk ac af ag ae ah ai ab aa) v (Tree.mk n1 s2 b3 l4 u5)) ((qak l4).length) 4 ++ ((qak l4).take k).flatMap (qaL (qaR d aa v flex) ab false flex)).length) c_)),(36,.v (.int .i64 ab)),(38,.v (.slice ay aa.length az)),(39,.v (.int .i64 v)),(40,.v (.bool flex)),(41,.v (.slice A8 ((qak l4).length) c9)),(42,.v (.int .i64 ((k:Nat):Int))),(43,.v (.pointer (some ⟨bS,bT + k * 5,none⟩))),(44,.v (.agg #[.int .i64 ak,.slice aV al.length aW,.bool am,.slice aX ao.length aY,.slice aZ ap.length ba])),(45,.v (.slice bg ((qaL (qaR d aa v flex) ab false flex (Tree.mk ak al am ao ap)).length) bh)),(46,.v (.slice av ((qao flex (Fld.nul (Fld.mk ac af ag ae ah ai ab aa) v (Tree.mk n1 s2 b3 l4 u5)) ((qak l4).length) 4 ++ ((qak l4).take k).flatMap (qaL (qaR d aa v flex) ab false flex)).length + (qaL (qaR d aa v flex) ab false flex (Tree.mk ak al am ao ap)).length) aw))]) kz
   have cY:=cX.cast (env':=[(1,.v (.int .i64 v)),(2,.v (.bool flex)),(4,.p 0 0),(10,.v (.slice A8 ((qak l4).length) c9)),(11,.v (.slice A_ ((qao flex (Fld.nul (Fld.mk ac af ag ae ah ai ab aa) v (Tree.mk n1 s2 b3 l4 u5)) ((qak l4).length) 4 ++ ((qak l4).take k).flatMap (qaL (qaR d aa v flex) ab false flex)).length) c_)),(30,.v (.int .i64 (((qak l4).length:Nat):Int))),(31,.v (.int .i64 ((k:Nat):Int))),(34,.v (.slice A_ ((qao flex (Fld.nul (Fld.mk ac af ag ae ah ai ab aa) v (Tree.mk n1 s2 b3 l4 u5)) ((qak l4).length) 4 ++ ((qak l4).take k).flatMap (qaL (qaR d aa v flex) ab false flex)).length) c_)),(36,.v (.int .i64 ab)),(38,.v (.slice ay aa.length az)),(39,.v (.int .i64 v)),(40,.v (.bool flex)),(41,.v (.slice A8 ((qak l4).length) c9)),(42,.v (.int .i64 ((k:Nat):Int))),(43,.v (.pointer (some ⟨bS,bT + k * 5,none⟩))),(44,.v (.agg #[.int .i64 ak,.slice aV al.length aW,.bool am,.slice aX ao.length aY,.slice aZ ap.length ba])),(45,.v (.slice bg ((qaL (qaR d aa v flex) ab false flex (Tree.mk ak al am ao ap)).length) bh)),(46,.v (.slice av ((qao flex (Fld.nul (Fld.mk ac af ag ae ah ai ab aa) v (Tree.mk n1 s2 b3 l4 u5)) ((qak l4).length) 4 ++ ((qak l4).take k).flatMap (qaL (qaR d aa v flex) ab false flex) ++ (qaL (qaR d aa v flex) ab false flex (Tree.mk ak al am ao ap))).length) aw))]) (by simp only [List.length_append,List.length_cons,List.length_nil,Nat.zero_add])
   have cZ:=TT.ofW ((bi.trans bI).trans bJ) aH
   refine ⟨fun _=>cZ,?_⟩
   refine qaA (i:=13) kz (qa6 [1,2,4,10,11,30,31] aH.cells cY (env':=[(1,.v (.int .i64 v)),(2,.v (.bool flex)),(4,.p 0 0),(10,.v (.slice A8 ((qak l4).length) c9)),(11,.v (.slice av ((qao flex (Fld.nul (Fld.mk ac af ag ae ah ai ab aa) v (Tree.mk n1 s2 b3 l4 u5)) ((qak l4).length) 4 ++ ((qak l4).take k).flatMap (qaL (qaR d aa v flex) ab false flex) ++ (qaL (qaR d aa v flex) ab false flex (Tree.mk ak al am ao ap))).length) aw)),(30,.v (.int .i64 (((qak l4).length:Nat):Int))),(31,.v (.int .i64 ((k:Nat):Int)))]) kz fun fS c5=>?_)
   refine ⟨fun h=>absurd rfl h,?_⟩
   refine qaG kz ?_ _
   refine qar ?_
   refine qab ?_
   refine qaw [0,1] kz ?_
   refine qah [0,1] [] [(1,.v (.int .i64 v)),(2,.v (.bool flex)),(4,.p 0 0),(10,.v (.slice A8 ((qak l4).length) c9)),(11,.v (.slice av ((qao flex (Fld.nul (Fld.mk ac af ag ae ah ai ab aa) v (Tree.mk n1 s2 b3 l4 u5)) ((qak l4).length) 4 ++ ((qak l4).take k).flatMap (qaL (qaR d aa v flex) ab false flex) ++ (qaL (qaR d aa v flex) ab false flex (Tree.mk ak al am ao ap))).length) aw)),(30,.v (.int .i64 (((qak l4).length:Nat):Int))),(31,.v (.int .i64 (IntKind.i64.wrap (((k:Nat):Int) + 1))))] aH c5 fun fT bj=>?_
   refine qae (qab ?_)
   obtain ⟨c6,da⟩:=aH.cutR 1 [brow av aw 5 (qao flex (Fld.nul (Fld.mk ac af ag ae ah ai ab aa) v (Tree.mk n1 s2 b3 l4 u5)) ((qak l4).length) 4 ++ ((qak l4).take k).flatMap (qaL (qaR d aa v flex) ab false flex) ++ (qaL (qaR d aa v flex) ab false flex (Tree.mk ak al am ao ap)))]
   have bK:(qao flex (Fld.nul (Fld.mk ac af ag ae ah ai ab aa) v (Tree.mk n1 s2 b3 l4 u5)) ((qak l4).length) 4 ++ ((qak l4).take k).flatMap (qaL (qaR d aa v flex) ab false flex) ++ (qaL (qaR d aa v flex) ab false flex (Tree.mk ak al am ao ap))) = (qao flex (Fld.nul (Fld.mk ac af ag ae ah ai ab aa) v (Tree.mk n1 s2 b3 l4 u5)) ((qak l4).length) 4 ++ ((qak l4).take (k + 1)).flatMap (qaL (qaR d aa v flex) ab false flex)):=by rw [qcj aF,List.append_assoc]
   have db:=congrArg (brow av aw 5) bK
   obtain ⟨dc,de⟩:=c6.rowEq 0 [brow av aw 5 (qao flex (Fld.nul (Fld.mk ac af ag ae ah ai ab aa) v (Tree.mk n1 s2 b3 l4 u5)) ((qak l4).length) 4 ++ ((qak l4).take (k + 1)).flatMap (qaL (qaR d aa v flex) ab false flex))] db
   rw [bK] at bj
   have df:IntKind.i64.wrap (((k:Nat):Int) + 1) = ((k + 1:Nat):Int):=qaM (by omega)
   rw [df] at bj
   exact ⟨(qak l4).length - (k + 1),by omega,k + 1,av,aw,rfl,by omega,bj.pk,dc,((((((cJ.trans cL).trans bi).trans bI).trans bJ).trans da).trans de)⟩
  have eR:=of_decide_eq_false aR
  refine wp_exit ?_
  refine qaB ?_
  refine qaB ?_
  refine qaQ ?_
  refine qab ?_
  refine qan [(8,.v (.slice A_ ((qao flex (Fld.nul (Fld.mk ac af ag ae ah ai ab aa) v (Tree.mk n1 s2 b3 l4 u5)) ((qak l4).length) 4 ++ ((qak l4).take k).flatMap (qaL (qaR d aa v flex) ab false flex)).length) c_))] ax aQ fun fU dg=>?_
  refine wp_ret ?_
  refine qal ?_
  refine qaD dg ax.cells (v:=.slice A_ ((qao flex (Fld.nul (Fld.mk ac af ag ae ah ai ab aa) v (Tree.mk n1 s2 b3 l4 u5)) ((qak l4).length) 4 ++ ((qak l4).take k).flatMap (qaL (qaR d aa v flex) ab false flex)).length) c_) kz ?_
  have hkk:(qak l4).take k = qak l4:=List.take_of_length_le (by omega)
  exact qa2 ax (k:=0) rfl (by rw [hkk,qeX ‹_› ‹_›]; rfl)
 have eS:ac ≠ 11:=by simpa using bP
 refine wp_skip ?_
 refine qab ?_
 refine wp_seq ?_
 refine qad [0,1,2,3,4,5,6,7] kz ?_
 refine qah [0,1,2,3] [4,5,6,7] [(1,.v (.int .i64 v)),(2,.v (.bool flex)),(4,.p 0 0),(7,.p 1 0),(9,.v (.bool (Fld.nul (Fld.mk ac af ag ae ah ai ab aa) v (Tree.mk n1 s2 b3 l4 u5)))),(52,.v (.bool (ac == 10)))] aj bO fun fV bL=>?_
 refine (Bool.eq_false_or_eq_true (ac == 10)).elim (fun aA=>?_) (fun aA=>?_)
 ·
  have eU:ac = 10:=by simpa using aA
  have dh:=bL.cast (env':=[(1,.v (.int .i64 v)),(2,.v (.bool flex)),(4,.p 0 0),(7,.p 1 0),(9,.v (.bool (Fld.nul (Fld.mk ac af ag ae ah ai ab aa) v (Tree.mk n1 s2 b3 l4 u5)))),(52,.v (.bool true))]) (by rw [aA])
  refine qah [4,5,6,7] [] [(1,.v (.int .i64 v)),(2,.v (.bool flex)),(4,.p 0 0),(7,.p 1 0),(9,.v (.bool (Fld.nul (Fld.mk ac af ag ae ah ai ab aa) v (Tree.mk n1 s2 b3 l4 u5)))),(56,.v (.bool (decide (ae ≥ 0))))] aj dh fun fW bk=>?_
  refine qae (qab ?_)
  refine qau bk (b:=decide (ae ≥ 0)) kz (fun bn=>?_) (fun bn=>?_)
  ·
   have eV:=of_decide_eq_true bn
   refine wp_seq ?_
   refine qan [(1,.v (.int .i64 v)),(2,.v (.bool flex)),(4,.p 0 0),(7,.p 1 0),(57,.v (.bool (Fld.nul (Fld.mk ac af ag ae ah ai ab aa) v (Tree.mk n1 s2 b3 l4 u5))))] aj bk fun fX bo=>?_
   refine qau bo (b:=Fld.nul (Fld.mk ac af ag ae ah ai ab aa) v (Tree.mk n1 s2 b3 l4 u5)) kz (fun di=>?_) (fun di=>?_)
   ·
    refine qad [0,1] kz ?_
    refine qam (qai bo (f:=28) (vs:=[.int .i64 (-1),.int .i64 1]) (d:=58) kz Tryd.call28 (qdA (-1) 1 (by first | decide | exact qbb _ | omega) _) ?_)
    rintro e_ fY ⟨bU,bV,rfl,dj,dl⟩
    refine ⟨_,rfl,fun fZ dp=>?_⟩
    obtain ⟨bp,eW⟩:=aj.frFresh dl (brow bU bV 5 (be 1 (-1))) (Nat.le_refl _) dj
    refine qah [1] [] [(8,.v (.slice bU ((be 1 (-1)).length) bV))] bp dp fun f5 dq=>?_
    refine qae (qab ?_)
    refine wp_ret ?_
    refine qal ?_
    refine qal ?_
    refine qaD dq bp.cells (v:=.slice bU ((be 1 (-1)).length) bV) kz ?_
    exact qa2 bp (k:=0) rfl (by first | rw [qcQ ‹_› ‹_›] | rw [qcP ‹_› ‹_› ‹_›] | rw [qck ‹_› ‹_› ‹_› ‹_›] | rw [qcO ‹_› ‹_› ‹_› ‹_›])
   refine wp_skip ?_
   refine qab ?_
   refine qaI 8 kz aj fun f7 eX dr dt=>?_
   refine qaH [1,2,3,4,5] [(61,.v (.slice ay aa.length az)),(62,.v (.int .i64 v)),(63,.v (.bool flex)),(64,.v (.agg #[.int .i64 n1,.slice A6 s2.length c7,.bool b3,.slice A8 l4.length c9,.slice aK u5.length aL]))] 4 (qaa (qaa qaf)) (fun _ h=>h.cells) dt bo fun f8 du=>?_
   refine qaA (i:=0) kz (qai du (f:=28) (vs:=[.int .i64 1,.int .i64 1]) (d:=59) kz Tryd.call28 (qdA 1 1 (by first | decide | exact qbb _ | omega) _) ?_)
   rintro e_ f9 ⟨bB,bC,rfl,dv,dw⟩
   refine ⟨_,rfl,fun ga dx=>?_⟩
   obtain ⟨au,bq⟩:=dr.frFresh dw (brow bB bC 5 (be 1 1)) (Nat.le_refl _) dv
   have dy:=TT.ofW bq au
   refine ⟨fun _=>dy,?_⟩
   refine qaA (i:=6) kz (qai dx (f:=57) (vs:=[.slice ay aa.length az,.int .i64 v,.bool flex,.agg #[.int .i64 n1,.slice A6 s2.length c7,.bool b3,.slice A8 l4.length c9,.slice aK u5.length aL]]) (d:=65) kz Tryd.call57 (hp _ _ aa v flex _ (Tree.mk n1 s2 b3 l4 u5) _ _ ⟨bz,(ce.move au.step nilM au.imm),(fun i_ x_ h_=>((dY i_ x_ h_).move au.step nilM au.imm))⟩ hd (ht.move au.step nilM au.imm) (by have h9_:=hroom; rw [qck ‹_› ‹_› ‹_› ‹_›,List.length_append] at h9_; omega)) ?_)
   rintro e_ gb ⟨bt,bu,rfl,dA,dB⟩
   refine ⟨_,rfl,fun gc dC=>?_⟩
   obtain ⟨aI,bM⟩:=au.frFresh dB (brow bt bu 5 (qaR d aa v flex (Tree.mk n1 s2 b3 l4 u5))) (Nat.le_refl _) dA
   have dD:=TT.ofW (bq.trans bM) aI
   refine ⟨fun _=>dD,?_⟩
   refine qaA (i:=7) kz (qaW aI dC (k:=0) (d:=66) (t:=22) (e:=5) (size:=1) (bytes:=1) (A:=bB) (As:=bt) (m0:=((be 1 1).length)) (c:=bC) (m:=((qaR d aa v flex (Tree.mk n1 s2 b3 l4 u5)).length)) (cs:=bu) (xs:=(bc (be 1 1))) (news:=bc (qaR d aa v flex (Tree.mk n1 s2 b3 l4 u5))) kz kz rfl (qbB (aI.own 1 _ rfl) (qch _)) (qbN (aI.own 1 _ rfl)) (by have h9_:=hroom; rw [qck ‹_› ‹_› ‹_› ‹_›,List.length_append] at h9_; omega) fun aC aD gd ge dE dF dG=>?_)
   have dH:(⟨aC,aD,5,1,(be 1 1).length + (qaR d aa v flex (Tree.mk n1 s2 b3 l4 u5)).length,bc (be 1 1) ++ bc (qaR d aa v flex (Tree.mk n1 s2 b3 l4 u5))⟩:Rw) = brow aC aD 5 (be 1 1 ++ (qaR d aa v flex (Tree.mk n1 s2 b3 l4 u5))):=qbq (rfl) rfl
   obtain ⟨aJ,dI⟩:=dF.rowEq 0 [brow aC aD 5 (be 1 1 ++ (qaR d aa v flex (Tree.mk n1 s2 b3 l4 u5))),brow bt bu 5 (qaR d aa v flex (Tree.mk n1 s2 b3 l4 u5))] dH
   have dJ:=EnvOk.pick dG (ks:=[61,62,63,64,59,65,66]) (env':=[(61,.v (.slice ay aa.length az)),(62,.v (.int .i64 v)),(63,.v (.bool flex)),(64,.v (.agg #[.int .i64 n1,.slice A6 s2.length c7,.bool b3,.slice A8 l4.length c9,.slice aK u5.length aL])),(59,.v (.slice bB ((be 1 1).length) bC)),(65,.v (.slice bt ((qaR d aa v flex (Tree.mk n1 s2 b3 l4 u5)).length) bu)),(66,.v (.slice aC ((be 1 1).length + (qaR d aa v flex (Tree.mk n1 s2 b3 l4 u5)).length) aD))]) kz
   have dK:=dJ.cast (env':=[(61,.v (.slice ay aa.length az)),(62,.v (.int .i64 v)),(63,.v (.bool flex)),(64,.v (.agg #[.int .i64 n1,.slice A6 s2.length c7,.bool b3,.slice A8 l4.length c9,.slice aK u5.length aL])),(59,.v (.slice bB ((be 1 1).length) bC)),(65,.v (.slice bt ((qaR d aa v flex (Tree.mk n1 s2 b3 l4 u5)).length) bu)),(66,.v (.slice aC ((be 1 1 ++ (qaR d aa v flex (Tree.mk n1 s2 b3 l4 u5))).length) aD))]) (by simp only [List.length_append,List.length_cons,List.length_nil,Nat.zero_add])
   have dL:=TT.ofW (((bq.trans bM).trans dE).trans dI) aJ
   refine ⟨fun _=>dL,?_⟩
   refine qaA (i:=8) kz (qa6 [8] aJ.cells dK (env':=[(8,.v (.slice aC ((be 1 1 ++ (qaR d aa v flex (Tree.mk n1 s2 b3 l4 u5))).length) aD))]) kz fun gg dM=>?_)
   refine ⟨fun h=>absurd rfl h,?_⟩
   refine qaG kz ?_ _
   refine qab ?_
   refine wp_ret ?_
   refine qal ?_
   refine qaD dM aJ.cells (v:=.slice aC ((be 1 1 ++ (qaR d aa v flex (Tree.mk n1 s2 b3 l4 u5))).length) aD) kz ?_
   exact qa2 aJ (k:=0) rfl (by first | rw [qcQ ‹_› ‹_›] | rw [qcP ‹_› ‹_› ‹_›] | rw [qck ‹_› ‹_› ‹_› ‹_›] | rw [qcO ‹_› ‹_› ‹_› ‹_›])
  have eY:=of_decide_eq_false bn
  refine wp_skip ?_
  refine qab ?_
  refine qad [0,1,2,3,4,5,6,7,8,9] kz ?_
  refine qah [0,1,2,3,4,5,6,7] [8,9] [(68,.v (.int .i64 ac)),(70,.v (.slice ay aa.length az)),(71,.v (.bool (Fld.nul (Fld.mk ac af ag ae ah ai ab aa) v (Tree.mk n1 s2 b3 l4 u5)))),(72,.v (.int .i64 v)),(73,.v (.bool flex)),(74,.v (.agg #[.int .i64 n1,.slice A6 s2.length c7,.bool b3,.slice A8 l4.length c9,.slice aK u5.length aL]))] aj bk fun gh dN=>?_
  refine qam (qai dN (f:=109) (vs:=[.int .i64 ac,.slice ay aa.length az,.bool (Fld.nul (Fld.mk ac af ag ae ah ai ab aa) v (Tree.mk n1 s2 b3 l4 u5)),.int .i64 v,.bool flex,.agg #[.int .i64 n1,.slice A6 s2.length c7,.bool b3,.slice A8 l4.length c9,.slice aK u5.length aL]]) (d:=75) kz Tryd.call109 (qhl hp ac _ _ aa (Fld.nul (Fld.mk ac af ag ae ah ai ab aa) v (Tree.mk n1 s2 b3 l4 u5)) v flex _ (Tree.mk n1 s2 b3 l4 u5) _ _ ⟨bz,(ce.move aj.step nilM aj.imm),(fun i_ x_ h_=>((dY i_ x_ h_).move aj.step nilM aj.imm))⟩ hd (ht.move aj.step nilM aj.imm) (by have h_:=hroom; (first | rw [qcQ ‹_› ‹_›] at h_ | rw [qcP ‹_› ‹_› ‹_›] at h_); exact h_)) ?_)
  rintro e_ gi ⟨bW,bX,rfl,dO,dP⟩
  refine ⟨_,rfl,fun gj dQ=>?_⟩
  obtain ⟨bw,eZ⟩:=aj.frFresh dP (brow bW bX 5 (qaL (qaR d aa v flex) ac (Fld.nul (Fld.mk ac af ag ae ah ai ab aa) v (Tree.mk n1 s2 b3 l4 u5)) flex (Tree.mk n1 s2 b3 l4 u5))) (Nat.le_refl _) dO
  refine qah [9] [] [(8,.v (.slice bW ((qaL (qaR d aa v flex) ac (Fld.nul (Fld.mk ac af ag ae ah ai ab aa) v (Tree.mk n1 s2 b3 l4 u5)) flex (Tree.mk n1 s2 b3 l4 u5)).length) bX))] bw dQ fun gk dR=>?_
  refine qae (qab ?_)
  refine wp_ret ?_
  refine qaD dR bw.cells (v:=.slice bW ((qaL (qaR d aa v flex) ac (Fld.nul (Fld.mk ac af ag ae ah ai ab aa) v (Tree.mk n1 s2 b3 l4 u5)) flex (Tree.mk n1 s2 b3 l4 u5)).length) bX) kz ?_
  exact qa2 bw (k:=0) rfl (by first | rw [qcQ ‹_› ‹_›] | rw [qcP ‹_› ‹_› ‹_›] | rw [qck ‹_› ‹_› ‹_› ‹_›] | rw [qcO ‹_› ‹_› ‹_› ‹_›])
 have e9:ac ≠ 10:=by simpa using aA
 have dS:=bL.cast (env':=[(1,.v (.int .i64 v)),(2,.v (.bool flex)),(4,.p 0 0),(7,.p 1 0),(9,.v (.bool (Fld.nul (Fld.mk ac af ag ae ah ai ab aa) v (Tree.mk n1 s2 b3 l4 u5)))),(52,.v (.bool false))]) (by rw [aA])
 refine qah [4,5,6,7] [] [(1,.v (.int .i64 v)),(2,.v (.bool flex)),(4,.p 0 0),(7,.p 1 0),(9,.v (.bool (Fld.nul (Fld.mk ac af ag ae ah ai ab aa) v (Tree.mk n1 s2 b3 l4 u5)))),(56,.v (.bool false))] aj dS fun gl bN=>?_
 refine qae (qab ?_)
 refine qap bN (b:=false) kz rfl ?_
 refine wp_skip ?_
 refine qab ?_
 refine qad [0,1,2,3,4,5,6,7,8,9] kz ?_
 refine qah [0,1,2,3,4,5,6,7] [8,9] [(68,.v (.int .i64 ac)),(70,.v (.slice ay aa.length az)),(71,.v (.bool (Fld.nul (Fld.mk ac af ag ae ah ai ab aa) v (Tree.mk n1 s2 b3 l4 u5)))),(72,.v (.int .i64 v)),(73,.v (.bool flex)),(74,.v (.agg #[.int .i64 n1,.slice A6 s2.length c7,.bool b3,.slice A8 l4.length c9,.slice aK u5.length aL]))] aj bN fun gm dT=>?_
 refine qam (qai dT (f:=109) (vs:=[.int .i64 ac,.slice ay aa.length az,.bool (Fld.nul (Fld.mk ac af ag ae ah ai ab aa) v (Tree.mk n1 s2 b3 l4 u5)),.int .i64 v,.bool flex,.agg #[.int .i64 n1,.slice A6 s2.length c7,.bool b3,.slice A8 l4.length c9,.slice aK u5.length aL]]) (d:=75) kz Tryd.call109 (qhl hp ac _ _ aa (Fld.nul (Fld.mk ac af ag ae ah ai ab aa) v (Tree.mk n1 s2 b3 l4 u5)) v flex _ (Tree.mk n1 s2 b3 l4 u5) _ _ ⟨bz,(ce.move aj.step nilM aj.imm),(fun i_ x_ h_=>((dY i_ x_ h_).move aj.step nilM aj.imm))⟩ hd (ht.move aj.step nilM aj.imm) (by have h_:=hroom; (first | rw [qcQ ‹_› ‹_›] at h_ | rw [qcP ‹_› ‹_› ‹_›] at h_); exact h_)) ?_)
 rintro e_ gn ⟨bY,bZ,rfl,dU,dV⟩
 refine ⟨_,rfl,fun gp dW=>?_⟩
 obtain ⟨bx,fa⟩:=aj.frFresh dV (brow bY bZ 5 (qaL (qaR d aa v flex) ac (Fld.nul (Fld.mk ac af ag ae ah ai ab aa) v (Tree.mk n1 s2 b3 l4 u5)) flex (Tree.mk n1 s2 b3 l4 u5))) (Nat.le_refl _) dU
 refine qah [9] [] [(8,.v (.slice bY ((qaL (qaR d aa v flex) ac (Fld.nul (Fld.mk ac af ag ae ah ai ab aa) v (Tree.mk n1 s2 b3 l4 u5)) flex (Tree.mk n1 s2 b3 l4 u5)).length) bZ))] bx dW fun gq dX=>?_
 refine qae (qab ?_)
 refine wp_ret ?_
 refine qaD dX bx.cells (v:=.slice bY ((qaL (qaR d aa v flex) ac (Fld.nul (Fld.mk ac af ag ae ah ai ab aa) v (Tree.mk n1 s2 b3 l4 u5)) flex (Tree.mk n1 s2 b3 l4 u5)).length) bZ) kz ?_
 exact qa2 bx (k:=0) rfl (by first | rw [qcQ ‹_› ‹_›] | rw [qcP ‹_› ‹_› ‹_›] | rw [qck ‹_› ‹_› ‹_› ‹_›] | rw [qcO ‹_› ‹_› ‹_› ‹_›])
theorem qeD (Af:Option Addr) (cf:Nat) (l:List Fld) (A:Option Addr) (c:Nat) (u:List (Int × Bs)) (w:World) (F:Nat → Nat → Prop) (hl:FldsR w F Af cf l) (hu:TagsR w F A c u) :
  Calls Tryd.prog 53 #[.slice Af l.length cf,.slice A u.length c] w (qih w F (qag l u)):=by
 obtain ⟨xf,hf1,hf2⟩:=hl.ex
 obtain ⟨xu,hu1,hu2⟩:=hu.ex
 have hsmu:=hu1.small
 have hule:(u.take 32767).length ≤ 32767:=by rw [List.length_take]; omega
 refine enter (n:=85) Tryd.func53 rfl Tryd.ntmps53 kz fun a hE=>?_
 have hW:=WOk.start w Nil
 refine qan [(0,.v (.slice Af l.length cf)),(1,.v (.slice A u.length c))] hW hE fun a1 hE2=>?_
 refine qad [0,1,2] kz ?_
 refine qah [0] [1,2] [(1,.v (.slice A u.length c)),(11,.v (.slice Af l.length cf))] hW hE2 fun a3 hE4=>?_
 refine qam (qai hE4 (f:=76) (vs:=[.slice Af l.length cf]) (d:=12) kz Tryd.call76 (qik _ _ l _ _ ⟨xf,(hf1.move hW.step nilM hW.imm),(fun i_ x_ h_=>((hf2 i_ x_ h_).move hW.step nilM hW.imm))⟩) ?_)
 rintro e_ w6 ⟨rfl,hs5⟩
 refine ⟨_,rfl,fun a7 hE8=>?_⟩
 have hW9:=hW.next_nil hs5
 have fF:=hW.frN hs5
 refine qah [2] [] [(1,.v (.slice A u.length c)),(5,.v (.int .u32 (qat l)))] hW9 hE8 fun ic eJ=>?_
 refine qae (qab ?_)
 refine qan [(1,.v (.slice A u.length c)),(5,.v (.int .u32 (qat l))),(6,.v (.slice none 0 0))] hW9 eJ fun ig eK=>?_
 refine wp_seq ?_
 refine qad [0,1,2,3,4,5,6] kz ?_
 refine qah [0,1,2,3] [4,5,6] [(5,.v (.int .u32 (qat l))),(6,.v (.slice none 0 0)),(13,.v (.slice A u.length c)),(16,.v (.int .i64 (if 32767 < ((u.length:Nat):Int) then 32767 else ((u.length:Nat):Int))))] hW9 eK fun ii eL=>?_
 refine qam (qc2 eL (t:=35) (A:=A) (m:=u.length) (cp:=c) (q:=(if 32767 < ((u.length:Nat):Int) then 32767 else ((u.length:Nat):Int))) (d:=17) (j:=(u.take 32767).length) kz (e:=64) (size:=2) (bytes:=32) kz (by simpa using qfk u.length) (by rw [List.length_take]; have:=hu1.le; omega) fun ij eM=>?_)
 refine qah [5,6] [] [(5,.v (.int .u32 (qat l))),(6,.v (.slice none 0 0)),(17,.v (.slice A ((u.take 32767).length) c)),(18,.v (.int .i64 (((u.take 32767).length:Nat):Int))),(19,.v (.int .i64 0))] hW9 eM fun ik eN=>?_
 refine qae (qab ?_)
 refine wp_block ?_
 have cM:=hW9.addNil 64 2
 have fG:=hW9.frNil 64 2
 refine wp_loop_ghost (fun n_ a_ w_=>∃ (k:Nat) (A_:Option Addr) (c_:Nat) (out:List (Int × Bs)) (css:List (List Value)),n_ = (u.take 32767).length - k ∧ k ≤ (u.take 32767).length ∧ (TagsE w_ (Imm F w w_ [] [⟨A_,c_,64,2,out.length,css.flatten⟩]) out css) ∧ (out = ((u.take 32767).take k).foldl (qby (qat l)) []) ∧ (out.length ≤ k) ∧ LInv cM 85 [] [⟨A_,c_,64,2,out.length,css.flatten⟩] [(5,.v (.int .u32 (qat l))),(6,.v (.slice A_ out.length c_)),(17,.v (.slice A ((u.take 32767).length) c)),(18,.v (.int .i64 (((u.take 32767).length:Nat):Int))),(19,.v (.int .i64 ((k:Nat):Int)))] a_ w_) ((u.take 32767).length) ⟨0,none,0,[],[],by omega,by omega,TagsE.nil _ _,rfl,Nat.zero_le _,eN.pk,cM,Fr.refl _ _ _⟩ ?_
 rintro il im io ⟨k,A_,c_,out,css,fH,fI,hT,hout,hlen,eO,aP,aS⟩
 refine qan [(5,.v (.int .u32 (qat l))),(6,.v (.slice A_ out.length c_)),(17,.v (.slice A ((u.take 32767).length) c)),(18,.v (.int .i64 (((u.take 32767).length:Nat):Int))),(19,.v (.int .i64 ((k:Nat):Int))),(20,.v (.bool (decide (((k:Nat):Int) < (((u.take 32767).length:Nat):Int)))))] aP eO fun ip cE=>?_
 refine wp_seq ?_
 refine qau cE (b:=decide (((k:Nat):Int) < (((u.take 32767).length:Nat):Int))) kz (fun cG=>?_) (fun cG=>?_)
 ·
  have fJ:=of_decide_eq_true cG
  refine wp_skip ?_
  refine qab ?_
  refine wp_seq ?_
  refine wp_block ?_
  refine qad [0,1,2,3] kz ?_
  obtain ⟨fK,fL,eP,fM,bH⟩:=Slots.get (qdS hu1 32767) (i:=k) (by omega)
  obtain ⟨⟨al,ax⟩,aQ⟩:∃ x,(u.take 32767)[k]? = some x:=⟨_,List.getElem?_eq_getElem (by omega)⟩
  obtain ⟨⟨aI,aJ,cN,cO⟩,fh,fi⟩:=(qdZ hu2 32767) k al ax aQ
  rw [cN] at bH
  refine qam (qaz cE (t:=35) (A:=A) (m:=((u.take 32767).length)) (q:=((k:Nat):Int)) (d:=21) kz (e:=64) (size:=2) (bytes:=32) kz eP rfl (by omega) fun iq eQ=>?_)
  refine qam (qaE eQ (t:=64) (b:=fK) (o:=fL + k * 2) (d:=22) kz (cs:=[.int .u32 al,.slice aI ax.length aJ]) (v:=.agg #[.int .u32 al,.slice aI ax.length aJ]) kz (AtF.move bH aP.step nilM qaZ).at_ fun ir eR=>?_)
  refine qam (qaO aP eR (d:=8) (cs:=[.int .u32 0,.slice none 0 0]) kz fun eS iu iv fN fO ac eU eV=>?_)
  refine qam (qay eU eV (oi:=0) (cs:=[.int .u32 al,.slice aI ax.length aJ]) kz fun iw ae cH eW=>?_)
  refine qae (qab ?_)
  refine qan [(5,.v (.int .u32 (qat l))),(6,.v (.slice A_ out.length c_)),(8,.p 0 0),(9,.v (.int .i64 0)),(17,.v (.slice A ((u.take 32767).length) c)),(18,.v (.int .i64 (((u.take 32767).length:Nat):Int))),(19,.v (.int .i64 ((k:Nat):Int)))] cH eW fun ix eX=>?_
  refine wp_seq ?_
  refine wp_block ?_
  refine wp_loop_ghost (fun n_ a_ w_=>∃ (i:Nat),n_ = out.length - i ∧ (i ≤ out.length) ∧ (∀ q,q < i → (out.getD q (0,[])).1 < al) ∧ LInv cH 85 [⟨eS,0,[.int .u32 al,.slice aI ax.length aJ],true⟩] [⟨A_,c_,64,2,out.length,css.flatten⟩] [(5,.v (.int .u32 (qat l))),(6,.v (.slice A_ out.length c_)),(8,.p 0 0),(9,.v (.int .i64 ((i:Nat):Int))),(17,.v (.slice A ((u.take 32767).length) c)),(18,.v (.int .i64 (((u.take 32767).length:Nat):Int))),(19,.v (.int .i64 ((k:Nat):Int)))] a_ w_) (out.length - 0) ⟨0,rfl,Nat.zero_le _,fun q h_=>absurd h_ (Nat.not_lt_zero q),eX.pk,cH,Fr.refl _ _ _⟩ ?_
  rintro iy iz iA ⟨i,fP,hi,hlt,eY,eZ,aa⟩
  refine wp_seq ?_
  refine qbu kz eZ fun iB ab aB=>?_
  refine qaH [0,1,2,3,4] [(5,.v (.int .u32 (qat l))),(6,.v (.slice A_ out.length c_)),(8,.p 0 0),(9,.v (.int .i64 ((i:Nat):Int))),(17,.v (.slice A ((u.take 32767).length) c)),(18,.v (.int .i64 (((u.take 32767).length:Nat):Int))),(19,.v (.int .i64 ((k:Nat):Int))),(27,.v (.bool (decide (((i:Nat):Int) < ((out.length:Nat):Int)))))] 9 (qaa (qaa (qaa (qac (qaa (qac (qaa (qaa (qac (qaa qaf)))))))))) (fun _ h=>h ▸ aB.cells) rfl eY fun iC cP=>?_
  refine (Bool.eq_false_or_eq_true (decide (((i:Nat):Int) < ((out.length:Nat):Int)))).elim (fun aO=>?_) (fun aO=>?_)
  ·
   have fQ:=of_decide_eq_true aO
   have e9:=cP.cast (env':=[(5,.v (.int .u32 (qat l))),(6,.v (.slice A_ out.length c_)),(8,.p 0 0),(9,.v (.int .i64 ((i:Nat):Int))),(17,.v (.slice A ((u.take 32767).length) c)),(18,.v (.int .i64 (((u.take 32767).length:Nat):Int))),(19,.v (.int .i64 ((k:Nat):Int))),(27,.v (.bool true))]) (by rw [aO])
   refine qaH [5,6,10,11] [(5,.v (.int .u32 (qat l))),(6,.v (.slice A_ out.length c_)),(8,.p 0 0),(9,.v (.int .i64 ((i:Nat):Int))),(17,.v (.slice A ((u.take 32767).length) c)),(18,.v (.int .i64 (((u.take 32767).length:Nat):Int))),(19,.v (.int .i64 ((k:Nat):Int))),(27,.v (.bool true)),(28,.v (.slice A_ out.length c_)),(29,.v (.int .i64 ((i:Nat):Int))),(34,.v (.int .u32 al))] 5 (qaa (qaa (qaa (qac (qaa (qac (qaa (qaa (qac (qaa qaf)))))))))) (fun _ h=>h ▸ aB.cells) rfl e9 fun iD fa=>?_
   obtain ⟨fb,cQ⟩:=qb8 (aB.own 0 _ rfl) (show 0 < out.length by omega)
   obtain ⟨⟨eI,iE⟩,bx⟩:∃ x,out[i]? = some x:=⟨_,List.getElem?_eq_getElem (by omega)⟩
   obtain ⟨iF,iG,fe,fR,iH,iI⟩:=TagsE.get2 (hT.move (((ac.trans ae).trans aa).trans ab).step immM (((ac.trans ae).trans aa).trans ab).to') bx
   have cR:=qfH (aB.own 0 _ rfl) cQ (qcR (hT.move (((ac.trans ae).trans aa).trans ab).step immM (((ac.trans ae).trans aa).trans ab).to').two fe)
   refine qaJ fa (i:=7) (t:=35) (A:=A_) (m:=out.length) (q:=((i:Nat):Int)) (d:=30) kz (e:=64) (size:=2) (bytes:=32) kz (b:=fb) (o:=0) (j:=i) cQ (rfl) (by omega) kz kz (qaa (qaa (qaa (qac (qaa (qac (qaa (qaa (qac (qaa qaf)))))))))) rfl fun iJ ff=>?_
   refine qaH [8] [(5,.v (.int .u32 (qat l))),(6,.v (.slice A_ out.length c_)),(8,.p 0 0),(9,.v (.int .i64 ((i:Nat):Int))),(17,.v (.slice A ((u.take 32767).length) c)),(18,.v (.int .i64 (((u.take 32767).length:Nat):Int))),(19,.v (.int .i64 ((k:Nat):Int))),(27,.v (.bool true)),(31,.v (.pointer (some ⟨fb,0 + i * 2,none⟩))),(34,.v (.int .u32 al))] 3 (qaa (qaa (qaa (qac (qaa (qac (qaa (qaa (qac (qaa qaf)))))))))) (fun _ h=>h ▸ aB.cells) rfl ff fun iK fg=>?_
   refine qaP fg (i:=9) (t:=62) (b:=fb) (o:=0 + i * 2) (d:=32) kz (cs:=[.int .u32 eI]) (v:=.int .u32 eI) kz (fun w' h'=>h' ▸ (At.drop cR 0 1)) kz kz (qaa (qaa (qaa (qac (qaa (qac (qaa (qaa (qac (qaa qaf)))))))))) rfl fun fS cS=>?_
   refine qaH [12,13] [(5,.v (.int .u32 (qat l))),(6,.v (.slice A_ out.length c_)),(8,.p 0 0),(9,.v (.int .i64 ((i:Nat):Int))),(17,.v (.slice A ((u.take 32767).length) c)),(18,.v (.int .i64 (((u.take 32767).length:Nat):Int))),(19,.v (.int .i64 ((k:Nat):Int))),(36,.v (.bool (decide (eI < al))))] 0 (qaa (qaa (qaa (qac (qaa (qac (qaa (qaa (qac (qaa qaf)))))))))) (fun _ h=>h ▸ aB.cells) rfl cS fun fT aT=>?_
   refine qaG kz ?_ _
   refine qab ?_
   refine qau aT (b:=decide (eI < al)) kz (fun aU=>?_) (fun aU=>?_)
   ·
    have fj:=of_decide_eq_true aU
    refine wp_skip ?_
    refine qab ?_
    refine wp_block ?_
    refine qaw [0,1,2] kz ?_
    refine qah [0,1,2] [] [(5,.v (.int .u32 (qat l))),(6,.v (.slice A_ out.length c_)),(8,.p 0 0),(9,.v (.int .i64 (IntKind.i64.wrap (((i:Nat):Int) + 1)))),(17,.v (.slice A ((u.take 32767).length) c)),(18,.v (.int .i64 (((u.take 32767).length:Nat):Int))),(19,.v (.int .i64 ((k:Nat):Int)))] aB aT fun fU bI=>?_
    refine qae ?_
    refine qar ?_
    refine qab ?_
    have cT:IntKind.i64.wrap (((i:Nat):Int) + 1) = ((i + 1:Nat):Int):=qaM (by omega)
    rw [cT] at bI
    exact ⟨out.length - (i + 1),by omega,(i + 1),rfl,by omega,fun q hq=>by rcases Nat.lt_succ_iff_lt_or_eq.1 hq with h_ | h_; exact hlt q h_; rw [h_,qgV bx]; assumption,bI.pk,aB,(aa.trans ab)⟩
   have fk:=of_decide_eq_false aU
   refine wp_exit ?_
   refine qaB ?_
   refine qaB ?_
   refine qaQ ?_
   refine qab ?_
   refine wp_seq ?_
   refine qbu kz aB fun fV af ap=>?_
   refine qaH [0,1,2,3,4] [(5,.v (.int .u32 (qat l))),(6,.v (.slice A_ out.length c_)),(8,.p 0 0),(9,.v (.int .i64 ((i:Nat):Int))),(17,.v (.slice A ((u.take 32767).length) c)),(18,.v (.int .i64 (((u.take 32767).length:Nat):Int))),(19,.v (.int .i64 ((k:Nat):Int))),(43,.v (.bool (decide (al < (qat l)))))] 15 (qaa (qaa (qac (qaa (qaa (qac (qaa qaf))))))) (fun _ h=>h ▸ ap.cells) rfl aT fun fW bJ=>?_
   refine (Bool.eq_false_or_eq_true (decide (al < (qat l)))).elim (fun aK=>?_) (fun aK=>?_)
   ·
    have fl:=of_decide_eq_true aK
    have cU:=bJ.cast (env':=[(5,.v (.int .u32 (qat l))),(6,.v (.slice A_ out.length c_)),(8,.p 0 0),(9,.v (.int .i64 ((i:Nat):Int))),(17,.v (.slice A ((u.take 32767).length) c)),(18,.v (.int .i64 (((u.take 32767).length:Nat):Int))),(19,.v (.int .i64 ((k:Nat):Int))),(43,.v (.bool true))]) (by rw [aK])
    refine qaH [5,6,7,8,9,10,11,12,13,14,15,16,17,18,19] [(5,.v (.int .u32 (qat l))),(6,.v (.slice A_ out.length c_)),(8,.p 0 0),(9,.v (.int .i64 ((i:Nat):Int))),(17,.v (.slice A ((u.take 32767).length) c)),(18,.v (.int .i64 (((u.take 32767).length:Nat):Int))),(19,.v (.int .i64 ((k:Nat):Int))),(58,.v (.bool true))] 0 (qaa (qaa (qac (qaa (qaa (qac (qaa qaf))))))) (fun _ h=>h ▸ ap.cells) rfl cU fun fX bK=>?_
    refine qaG kz ?_ _
    refine qab ?_
    refine qa0 bK (b:=true) kz rfl ?_
    refine wp_exit ?_
    refine qaB ?_
    refine qaQ ?_
    refine qab ?_
    refine qaw [0,1] kz ?_
    refine qah [0,1] [] [(5,.v (.int .u32 (qat l))),(6,.v (.slice A_ out.length c_)),(17,.v (.slice A ((u.take 32767).length) c)),(18,.v (.int .i64 (((u.take 32767).length:Nat):Int))),(19,.v (.int .i64 (IntKind.i64.wrap (((k:Nat):Int) + 1))))] ap bK fun fY cV=>?_
    refine qae (qab ?_)
    obtain ⟨bL,cW,aV⟩:=ap.cutB cV 0 [] [(5,.v (.int .u32 (qat l))),(6,.v (.slice A_ out.length c_)),(17,.v (.slice A ((u.take 32767).length) c)),(18,.v (.int .i64 (((u.take 32767).length:Nat):Int))),(19,.v (.int .i64 (IntKind.i64.wrap (((k:Nat):Int) + 1))))]
    have cX:IntKind.i64.wrap (((k:Nat):Int) + 1) = ((k + 1:Nat):Int):=qaM (by omega)
    rw [cX] at bL
    exact ⟨(u.take 32767).length - (k + 1),by omega,k + 1,A_,c_,out,css,rfl,by omega,(hT.move (((((ac.trans ae).trans aa).trans ab).trans af).trans aV).step immM (((((ac.trans ae).trans aa).trans ab).trans af).trans aV).to'),by rw [qbv aQ,← hout]; exact (qgW ‹_›).symm,by omega,bL.pk,cW,((((((aS.trans ac).trans ae).trans aa).trans ab).trans af).trans aV)⟩
   have fm:=of_decide_eq_false aK
   have cY:=bJ.cast (env':=[(5,.v (.int .u32 (qat l))),(6,.v (.slice A_ out.length c_)),(8,.p 0 0),(9,.v (.int .i64 ((i:Nat):Int))),(17,.v (.slice A ((u.take 32767).length) c)),(18,.v (.int .i64 (((u.take 32767).length:Nat):Int))),(19,.v (.int .i64 ((k:Nat):Int))),(43,.v (.bool false))]) (by rw [aK])
   refine qaH [5,6,7,8,9] [(5,.v (.int .u32 (qat l))),(6,.v (.slice A_ out.length c_)),(8,.p 0 0),(9,.v (.int .i64 ((i:Nat):Int))),(17,.v (.slice A ((u.take 32767).length) c)),(18,.v (.int .i64 (((u.take 32767).length:Nat):Int))),(19,.v (.int .i64 ((k:Nat):Int))),(43,.v (.bool false)),(48,.v (.bool (decide (((i:Nat):Int) < ((out.length:Nat):Int)))))] 10 (qaa (qaa (qac (qaa (qaa (qac (qaa qaf))))))) (fun _ h=>h ▸ ap.cells) rfl cY fun fZ cZ=>?_
   have c5:(decide (((i:Nat):Int) < ((out.length:Nat):Int))) = true:=aO
   have c6:=cZ.cast (env':=[(5,.v (.int .u32 (qat l))),(6,.v (.slice A_ out.length c_)),(8,.p 0 0),(9,.v (.int .i64 ((i:Nat):Int))),(17,.v (.slice A ((u.take 32767).length) c)),(18,.v (.int .i64 (((u.take 32767).length:Nat):Int))),(19,.v (.int .i64 ((k:Nat):Int))),(43,.v (.bool false)),(48,.v (.bool true))]) (by rw [c5])
   refine qaH [10,11,15,16] [(5,.v (.int .u32 (qat l))),(6,.v (.slice A_ out.length c_)),(8,.p 0 0),(9,.v (.int .i64 ((i:Nat):Int))),(17,.v (.slice A ((u.take 32767).length) c)),(18,.v (.int .i64 (((u.take 32767).length:Nat):Int))),(19,.v (.int .i64 ((k:Nat):Int))),(43,.v (.bool false)),(48,.v (.bool true)),(49,.v (.slice A_ out.length c_)),(50,.v (.int .i64 ((i:Nat):Int))),(55,.v (.int .u32 al))] 6 (qaa (qaa (qac (qaa (qaa (qac (qaa qaf))))))) (fun _ h=>h ▸ ap.cells) rfl c6 fun f5 da=>?_
   obtain ⟨cI,bM⟩:=qb8 (ap.own 0 _ rfl) (show 0 < out.length by omega)
   obtain ⟨⟨aR,f7⟩,aL⟩:∃ x,out[i]? = some x:=⟨_,List.getElem?_eq_getElem (by omega)⟩
   obtain ⟨f8,f9,db,fo,ga,gb⟩:=TagsE.get2 (hT.move ((((ac.trans ae).trans aa).trans ab).trans af).step immM ((((ac.trans ae).trans aa).trans ab).trans af).to') aL
   have cJ:=qfH (ap.own 0 _ rfl) bM (qcR (hT.move ((((ac.trans ae).trans aa).trans ab).trans af).step immM ((((ac.trans ae).trans aa).trans ab).trans af).to').two db)
   refine qaJ da (i:=12) (t:=35) (A:=A_) (m:=out.length) (q:=((i:Nat):Int)) (d:=51) kz (e:=64) (size:=2) (bytes:=32) kz (b:=cI) (o:=0) (j:=i) bM (rfl) (by omega) kz kz (qaa (qaa (qac (qaa (qaa (qac (qaa qaf))))))) rfl fun gc dc=>?_
   refine qaH [13] [(5,.v (.int .u32 (qat l))),(6,.v (.slice A_ out.length c_)),(8,.p 0 0),(9,.v (.int .i64 ((i:Nat):Int))),(17,.v (.slice A ((u.take 32767).length) c)),(18,.v (.int .i64 (((u.take 32767).length:Nat):Int))),(19,.v (.int .i64 ((k:Nat):Int))),(43,.v (.bool false)),(48,.v (.bool true)),(52,.v (.pointer (some ⟨cI,0 + i * 2,none⟩))),(55,.v (.int .u32 al))] 4 (qaa (qaa (qac (qaa (qaa (qac (qaa qaf))))))) (fun _ h=>h ▸ ap.cells) rfl dc fun gd de=>?_
   refine qaP de (i:=14) (t:=62) (b:=cI) (o:=0 + i * 2) (d:=53) kz (cs:=[.int .u32 aR]) (v:=.int .u32 aR) kz (fun w' h'=>h' ▸ (At.drop cJ 0 1)) kz kz (qaa (qaa (qac (qaa (qaa (qac (qaa qaf))))))) rfl fun ge df=>?_
   refine qaH [17,18,19] [(5,.v (.int .u32 (qat l))),(6,.v (.slice A_ out.length c_)),(8,.p 0 0),(9,.v (.int .i64 ((i:Nat):Int))),(17,.v (.slice A ((u.take 32767).length) c)),(18,.v (.int .i64 (((u.take 32767).length:Nat):Int))),(19,.v (.int .i64 ((k:Nat):Int))),(58,.v (.bool (aR == al)))] 0 (qaa (qaa (qac (qaa (qaa (qac (qaa qaf))))))) (fun _ h=>h ▸ ap.cells) rfl df fun gg aW=>?_
   refine qaG kz ?_ _
   refine qab ?_
   refine qau aW (b:=aR == al) kz (fun aX=>?_) (fun aX=>?_)
   ·
    have fq:aR = al:=by simpa using aX
    refine wp_exit ?_
    refine qaB ?_
    refine qaQ ?_
    refine qab ?_
    refine qaw [0,1] kz ?_
    refine qah [0,1] [] [(5,.v (.int .u32 (qat l))),(6,.v (.slice A_ out.length c_)),(17,.v (.slice A ((u.take 32767).length) c)),(18,.v (.int .i64 (((u.take 32767).length:Nat):Int))),(19,.v (.int .i64 (IntKind.i64.wrap (((k:Nat):Int) + 1))))] ap aW fun gh dg=>?_
    refine qae (qab ?_)
    obtain ⟨bN,dh,aY⟩:=ap.cutB dg 0 [] [(5,.v (.int .u32 (qat l))),(6,.v (.slice A_ out.length c_)),(17,.v (.slice A ((u.take 32767).length) c)),(18,.v (.int .i64 (((u.take 32767).length:Nat):Int))),(19,.v (.int .i64 (IntKind.i64.wrap (((k:Nat):Int) + 1))))]
    have di:IntKind.i64.wrap (((k:Nat):Int) + 1) = ((k + 1:Nat):Int):=qaM (by omega)
    rw [di] at bN
    exact ⟨(u.take 32767).length - (k + 1),by omega,k + 1,A_,c_,out,css,rfl,by omega,(hT.move (((((ac.trans ae).trans aa).trans ab).trans af).trans aY).step immM (((((ac.trans ae).trans aa).trans ab).trans af).trans aY).to'),by rw [qbv aQ,← hout]; exact (qhP (qdR hi hlt (fun _=>by rw [qcS aL]; omega)) (by omega) (by rw [qcS aL]; omega)).symm,by omega,bN.pk,dh,((((((aS.trans ac).trans ae).trans aa).trans ab).trans af).trans aY)⟩
   have fr:aR ≠ al:=by simpa using aX
   refine wp_skip ?_
   refine qab ?_
   refine qad [0,1,2,3,4] kz ?_
   refine qah [0,1] [2,3,4] [(5,.v (.int .u32 (qat l))),(8,.p 0 0),(9,.v (.int .i64 ((i:Nat):Int))),(17,.v (.slice A ((u.take 32767).length) c)),(18,.v (.int .i64 (((u.take 32767).length:Nat):Int))),(19,.v (.int .i64 ((k:Nat):Int))),(59,.v (.slice A_ out.length c_)),(60,.v (.agg #[.int .u32 0,.slice none 0 0]))] ap aW fun gi dj=>?_
   refine qbT ap dj (k:=0) (e:=64) (size:=2) (len:=1) (cs:=[.int .u32 0,.slice none 0 0]) (d1:=61) (d:=62) kz (t:=35) (bytes:=32) kz (fun _=>by kernel_rfl) rfl kz (by omega) fun ag ai gj gk am aZ ⟨_,dl⟩=>?_
   refine qah [4] [] [(5,.v (.int .u32 (qat l))),(6,.v (.slice ag (out.length + 1) ai)),(8,.p 0 0),(9,.v (.int .i64 ((i:Nat):Int))),(17,.v (.slice A ((u.take 32767).length) c)),(18,.v (.int .i64 (((u.take 32767).length:Nat):Int))),(19,.v (.int .i64 ((k:Nat):Int)))] aZ dl fun gl dp=>?_
   refine qae (qab ?_)
   refine wp_seq ?_
   refine qan [(5,.v (.int .u32 (qat l))),(6,.v (.slice ag (out.length + 1) ai)),(8,.p 0 0),(9,.v (.int .i64 ((i:Nat):Int))),(10,.v (.int .i64 (IntKind.i64.wrap (((out.length + 1:Nat):Int) - 1)))),(17,.v (.slice A ((u.take 32767).length) c)),(18,.v (.int .i64 (((u.take 32767).length:Nat):Int))),(19,.v (.int .i64 ((k:Nat):Int)))] aZ dp fun gm bO=>?_
   refine wp_block ?_
   have hcl0:=(hT.move (((((ac.trans ae).trans aa).trans ab).trans af).trans am).step immM (((((ac.trans ae).trans aa).trans ab).trans af).trans am).to').len
   have dq:(⟨ag,ai,64,2,out.length + 1,css.flatten ++ [.int .u32 0,.slice none 0 0]⟩:Rw) = ⟨ag,ai,64,2,out.length + 1,(qbo css [.int .u32 0,.slice none 0 0] out.length).flatten⟩:=by rw [qfI hcl0]
   obtain ⟨bP,av⟩:=aZ.rowEq 0 [⟨ag,ai,64,2,out.length + 1,(qbo css [.int .u32 0,.slice none 0 0] out.length).flatten⟩] dq
   have dr:IntKind.i64.wrap (((out.length + 1:Nat):Int) - 1) = ((out.length:Nat):Int):=by rw [wrap_i64 (by omega) (by omega)]; omega
   rw [dr] at bO
   refine wp_loop_ghost (fun n_ a_ w_=>∃ (j:Nat),n_ = j ∧ (i ≤ j) ∧ (j ≤ out.length) ∧ LInv bP 85 [⟨eS,0,[.int .u32 al,.slice aI ax.length aJ],true⟩] [⟨ag,ai,64,2,out.length + 1,(qbo css [.int .u32 0,.slice none 0 0] j).flatten⟩] [(5,.v (.int .u32 (qat l))),(6,.v (.slice ag (out.length + 1) ai)),(8,.p 0 0),(9,.v (.int .i64 ((i:Nat):Int))),(10,.v (.int .i64 ((j:Nat):Int))),(17,.v (.slice A ((u.take 32767).length) c)),(18,.v (.int .i64 (((u.take 32767).length:Nat):Int))),(19,.v (.int .i64 ((k:Nat):Int)))] a_ w_) (out.length) ⟨out.length,rfl,hi,Nat.le_refl _,bO.pk,bP,Fr.refl _ _ _⟩ ?_
   rintro gn gp gq ⟨j,ft,hij,hjl,dt,ay,ar⟩
   refine wp_seq ?_
   refine qan [(5,.v (.int .u32 (qat l))),(6,.v (.slice ag (out.length + 1) ai)),(8,.p 0 0),(9,.v (.int .i64 ((i:Nat):Int))),(10,.v (.int .i64 ((j:Nat):Int))),(17,.v (.slice A ((u.take 32767).length) c)),(18,.v (.int .i64 (((u.take 32767).length:Nat):Int))),(19,.v (.int .i64 ((k:Nat):Int))),(68,.v (.bool (decide (((j:Nat):Int) > ((i:Nat):Int)))))] ay dt fun gt ba=>?_
   refine qau ba (b:=decide (((j:Nat):Int) > ((i:Nat):Int))) kz (fun bf=>?_) (fun bf=>?_)
   ·
    have fu:=of_decide_eq_true bf
    refine wp_skip ?_
    refine qab ?_
    refine wp_seq ?_
    refine wp_block ?_
    refine qaw [0,1,2,3,4,5,6,7,8] kz ?_
    refine qah [0,1,2,3,4] [5,6,7,8] [(5,.v (.int .u32 (qat l))),(6,.v (.slice ag (out.length + 1) ai)),(8,.p 0 0),(9,.v (.int .i64 ((i:Nat):Int))),(10,.v (.int .i64 ((j:Nat):Int))),(17,.v (.slice A ((u.take 32767).length) c)),(18,.v (.int .i64 (((u.take 32767).length:Nat):Int))),(19,.v (.int .i64 ((k:Nat):Int))),(71,.v (.slice ag (out.length + 1) ai)),(72,.v (.int .i64 ((j:Nat):Int))),(73,.v (.slice ag (out.length + 1) ai)),(75,.v (.int .i64 (IntKind.i64.wrap (((j:Nat):Int) - 1))))] ay ba fun gv du=>?_
    obtain ⟨dv,bQ⟩:=qb8 (ay.own 0 _ rfl) (show 0 < out.length + 1 by omega)
    obtain ⟨⟨bz,bA⟩,dw⟩:∃ x,out[j - 1]? = some x:=⟨_,List.getElem?_eq_getElem (by omega)⟩
    obtain ⟨bB,bC,bR,fv,gw,gx⟩:=TagsE.get2 (hT.move (((((((ac.trans ae).trans aa).trans ab).trans af).trans am).trans av).trans ar).step immM (((((((ac.trans ae).trans aa).trans ab).trans af).trans am).trans av).trans ar).to') dw
    have cK:=qfH (ay.own 0 _ rfl) bQ (qcR (qdh (hT.move (((((((ac.trans ae).trans aa).trans ab).trans af).trans am).trans av).trans ar).step immM (((((((ac.trans ae).trans aa).trans ab).trans af).trans am).trans av).trans ar).to').two rfl j) (qeZ (show j - 1 < j by omega) bR))
    refine qam (qaz du (t:=35) (A:=ag) (m:=(out.length + 1)) (q:=(IntKind.i64.wrap (((j:Nat):Int) - 1))) (d:=76) kz (e:=64) (size:=2) (bytes:=32) kz (b:=dv) (o:=0) (j:=(j - 1)) bQ (by rw [wrap_i64 (by omega) (by omega)]; omega) (by omega) fun gy dx=>?_)
    refine qam (qaE dx (t:=64) (b:=dv) (o:=0 + (j - 1) * 2) (d:=77) kz (cs:=[.int .u32 bz,.slice bB bA.length bC]) (v:=.agg #[.int .u32 bz,.slice bB bA.length bC]) kz cK fun gz dy=>?_)
    obtain ⟨dA,bS⟩:=qb8 (ay.own 0 _ rfl) (show 0 < out.length + 1 by omega)
    refine qam (qaz dy (t:=35) (A:=ag) (m:=(out.length + 1)) (q:=((j:Nat):Int)) (d:=78) kz (e:=64) (size:=2) (bytes:=32) kz (b:=dA) (o:=0) (j:=j) bS (rfl) (by omega) fun gA dB=>?_)
    refine qam (qcp ay dB (k:=0) (g:=dA) (o:=j * 2) (c:=ai) (m:=(out.length + 1)) (size:=2) (e:=64) (A:=ag) (xs:=((qbo css [.int .u32 0,.slice none 0 0] j).flatten)) (vs:=[.int .u32 bz,.slice bB bA.length bC]) kz rfl bS (by simp only [List.length_cons,List.length_nil]; omega) fun gB bg bT dC=>?_)
    refine qae ?_
    refine qar ?_
    refine qab ?_
    refine qaw [0,1,2] kz ?_
    refine qah [0,1,2] [] [(5,.v (.int .u32 (qat l))),(6,.v (.slice ag (out.length + 1) ai)),(8,.p 0 0),(9,.v (.int .i64 ((i:Nat):Int))),(10,.v (.int .i64 (IntKind.i64.wrap (((j:Nat):Int) - 1)))),(17,.v (.slice A ((u.take 32767).length) c)),(18,.v (.int .i64 (((u.take 32767).length:Nat):Int))),(19,.v (.int .i64 ((k:Nat):Int)))] bT dC fun gC bU=>?_
    refine qae (qab ?_)
    have dD:(⟨ag,ai,64,2,out.length + 1,qba ((qbo css [.int .u32 0,.slice none 0 0] j).flatten) (j * 2) [.int .u32 bz,.slice bB bA.length bC]⟩:Rw) = ⟨ag,ai,64,2,out.length + 1,(qbo css [.int .u32 0,.slice none 0 0] (j - 1)).flatten⟩:=by rw [qe0 (hT.move ((((((((ac.trans ae).trans aa).trans ab).trans af).trans am).trans av).trans ar).trans bg).step immM ((((((((ac.trans ae).trans aa).trans ab).trans af).trans am).trans av).trans ar).trans bg).to').two rfl (by omega) (by omega) bR]
    obtain ⟨dE,dF⟩:=bT.rowEq 0 [⟨ag,ai,64,2,out.length + 1,(qbo css [.int .u32 0,.slice none 0 0] (j - 1)).flatten⟩] dD
    have dG:IntKind.i64.wrap (((j:Nat):Int) - 1) = ((j - 1:Nat):Int):=by rw [wrap_i64 (by omega) (by omega)]; omega
    rw [dG] at bU
    exact ⟨(j - 1),by omega,(j - 1),rfl,by omega,by omega,bU.pk,dE,((ar.trans bg).trans dF)⟩
   have fw:=of_decide_eq_false bf
   refine wp_exit ?_
   refine qaB ?_
   refine qaB ?_
   refine qaQ ?_
   refine qab ?_
   refine qaw [0,1,2,3,4] kz ?_
   refine qah [0,1,2] [3,4] [(5,.v (.int .u32 (qat l))),(6,.v (.slice ag (out.length + 1) ai)),(17,.v (.slice A ((u.take 32767).length) c)),(18,.v (.int .i64 (((u.take 32767).length:Nat):Int))),(19,.v (.int .i64 ((k:Nat):Int))),(79,.v (.slice ag (out.length + 1) ai)),(80,.v (.int .i64 ((i:Nat):Int))),(81,.v (.agg #[.int .u32 al,.slice aI ax.length aJ]))] ay ba fun gD dH=>?_
   have hji:j = i:=by omega
   have dI:(⟨ag,ai,64,2,out.length + 1,(qbo css [.int .u32 0,.slice none 0 0] j).flatten⟩:Rw) = ⟨ag,ai,64,2,out.length + 1,(qbo css [.int .u32 0,.slice none 0 0] i).flatten⟩:=by rw [hji]
   obtain ⟨bV,aC⟩:=ay.rowEq 0 [⟨ag,ai,64,2,out.length + 1,(qbo css [.int .u32 0,.slice none 0 0] i).flatten⟩] dI
   obtain ⟨dJ,bW⟩:=qb8 (bV.own 0 _ rfl) (show 0 < out.length + 1 by omega)
   refine qam (qaz dH (t:=35) (A:=ag) (m:=(out.length + 1)) (q:=((i:Nat):Int)) (d:=82) kz (e:=64) (size:=2) (bytes:=32) kz (b:=dJ) (o:=0) (j:=i) bW (rfl) (by omega) fun gE dK=>?_)
   refine qam (qcp bV dK (k:=0) (g:=dJ) (o:=i * 2) (c:=ai) (m:=(out.length + 1)) (size:=2) (e:=64) (A:=ag) (xs:=((qbo css [.int .u32 0,.slice none 0 0] i).flatten)) (vs:=[.int .u32 al,.slice aI ax.length aJ]) kz rfl bW (by simp only [List.length_cons,List.length_nil]; omega) fun gF aD bX dL=>?_)
   refine qae ?_
   refine qar ?_
   refine qab ?_
   refine qaw [0,1] kz ?_
   refine qah [0,1] [] [(5,.v (.int .u32 (qat l))),(6,.v (.slice ag (out.length + 1) ai)),(17,.v (.slice A ((u.take 32767).length) c)),(18,.v (.int .i64 (((u.take 32767).length:Nat):Int))),(19,.v (.int .i64 (IntKind.i64.wrap (((k:Nat):Int) + 1))))] bX dL fun gG dM=>?_
   refine qae (qab ?_)
   obtain ⟨bh,dN,aE⟩:=bX.cutB dM 0 [] [(5,.v (.int .u32 (qat l))),(6,.v (.slice ag (out.length + 1) ai)),(17,.v (.slice A ((u.take 32767).length) c)),(18,.v (.int .i64 (((u.take 32767).length:Nat):Int))),(19,.v (.int .i64 (IntKind.i64.wrap (((k:Nat):Int) + 1))))]
   have hcl:=(hT.move ((((((((((ac.trans ae).trans aa).trans ab).trans af).trans am).trans av).trans ar).trans aC).trans aD).trans aE).step immM ((((((((((ac.trans ae).trans aa).trans ab).trans af).trans am).trans av).trans ar).trans aC).trans aD).trans aE).to').len
   have dO:(⟨ag,ai,64,2,out.length + 1,qba ((qbo css [.int .u32 0,.slice none 0 0] i).flatten) (i * 2) [.int .u32 al,.slice aI ax.length aJ]⟩:Rw) = ⟨ag,ai,64,2,(out.take i ++ (al,ax) :: out.drop i).length,(css.take i ++ [.int .u32 al,.slice aI ax.length aJ] :: css.drop i).flatten⟩:=by rw [qe1 (hT.move ((((((((((ac.trans ae).trans aa).trans ab).trans af).trans am).trans av).trans ar).trans aC).trans aD).trans aE).step immM ((((((((((ac.trans ae).trans aa).trans ab).trans af).trans am).trans av).trans ar).trans aC).trans aD).trans aE).to').two rfl (by omega) rfl,qbV (al,ax) hi]
   obtain ⟨bi,bj⟩:=dN.rowEq 0 [⟨ag,ai,64,2,(out.take i ++ (al,ax) :: out.drop i).length,(css.take i ++ [.int .u32 al,.slice aI ax.length aJ] :: css.drop i).flatten⟩] dO
   have dP:IntKind.i64.wrap (((k:Nat):Int) + 1) = ((k + 1:Nat):Int):=qaM (by omega)
   rw [dP] at bh
   have dQ:out.length + 1 = (out.take i ++ (al,ax) :: out.drop i).length:=qbV (al,ax) hi
   rw [dQ] at bh
   exact ⟨(u.take 32767).length - (k + 1),by omega,k + 1,ag,ai,(out.take i ++ (al,ax) :: out.drop i),(css.take i ++ [.int .u32 al,.slice aI ax.length aJ] :: css.drop i),rfl,by omega,(hT.move (((((((((((ac.trans ae).trans aa).trans ab).trans af).trans am).trans av).trans ar).trans aC).trans aD).trans aE).trans bj).step immM (((((((((((ac.trans ae).trans aa).trans ab).trans af).trans am).trans av).trans ar).trans aC).trans aD).trans aE).trans bj).to').ins ⟨⟨aI,aJ,rfl,(cO.move bi.step nilM bi.imm)⟩,fh,fi⟩ hi,by rw [qbv aQ,← hout]; exact (qgX (qdR hi hlt (fun _=>by first | (rw [qcS bx]; omega) | (rw [qcS aL]; omega))) ‹_› (fun _=>by first | (rw [qcS bx]; omega) | (rw [qcS aL]; omega))).symm,by rw [← qbV (al,ax) hi]; omega,bh.pk,bi,((((((((((((aS.trans ac).trans ae).trans aa).trans ab).trans af).trans am).trans av).trans ar).trans aC).trans aD).trans aE).trans bj)⟩
  have fx:=of_decide_eq_false aO
  have dR:=cP.cast (env':=[(5,.v (.int .u32 (qat l))),(6,.v (.slice A_ out.length c_)),(8,.p 0 0),(9,.v (.int .i64 ((i:Nat):Int))),(17,.v (.slice A ((u.take 32767).length) c)),(18,.v (.int .i64 (((u.take 32767).length:Nat):Int))),(19,.v (.int .i64 ((k:Nat):Int))),(27,.v (.bool false))]) (by rw [aO])
  refine qaH [5,6,7,8,9,10,11,12,13] [(5,.v (.int .u32 (qat l))),(6,.v (.slice A_ out.length c_)),(8,.p 0 0),(9,.v (.int .i64 ((i:Nat):Int))),(17,.v (.slice A ((u.take 32767).length) c)),(18,.v (.int .i64 (((u.take 32767).length:Nat):Int))),(19,.v (.int .i64 ((k:Nat):Int))),(36,.v (.bool false))] 0 (qaa (qaa (qaa (qac (qaa (qac (qaa (qaa (qac (qaa qaf)))))))))) (fun _ h=>h ▸ aB.cells) rfl dR fun gH bY=>?_
  refine qaG kz ?_ _
  refine qab ?_
  refine qap bY (b:=false) kz rfl ?_
  refine wp_exit ?_
  refine qaB ?_
  refine qaB ?_
  refine qaQ ?_
  refine qab ?_
  refine wp_seq ?_
  refine qbu kz aB fun gI ak az=>?_
  refine qaH [0,1,2,3,4] [(5,.v (.int .u32 (qat l))),(6,.v (.slice A_ out.length c_)),(8,.p 0 0),(9,.v (.int .i64 ((i:Nat):Int))),(17,.v (.slice A ((u.take 32767).length) c)),(18,.v (.int .i64 (((u.take 32767).length:Nat):Int))),(19,.v (.int .i64 ((k:Nat):Int))),(43,.v (.bool (decide (al < (qat l)))))] 15 (qaa (qaa (qac (qaa (qaa (qac (qaa qaf))))))) (fun _ h=>h ▸ az.cells) rfl bY fun gJ bZ=>?_
  refine (Bool.eq_false_or_eq_true (decide (al < (qat l)))).elim (fun aM=>?_) (fun aM=>?_)
  ·
   have fy:=of_decide_eq_true aM
   have dS:=bZ.cast (env':=[(5,.v (.int .u32 (qat l))),(6,.v (.slice A_ out.length c_)),(8,.p 0 0),(9,.v (.int .i64 ((i:Nat):Int))),(17,.v (.slice A ((u.take 32767).length) c)),(18,.v (.int .i64 (((u.take 32767).length:Nat):Int))),(19,.v (.int .i64 ((k:Nat):Int))),(43,.v (.bool true))]) (by rw [aM])
   refine qaH [5,6,7,8,9,10,11,12,13,14,15,16,17,18,19] [(5,.v (.int .u32 (qat l))),(6,.v (.slice A_ out.length c_)),(8,.p 0 0),(9,.v (.int .i64 ((i:Nat):Int))),(17,.v (.slice A ((u.take 32767).length) c)),(18,.v (.int .i64 (((u.take 32767).length:Nat):Int))),(19,.v (.int .i64 ((k:Nat):Int))),(58,.v (.bool true))] 0 (qaa (qaa (qac (qaa (qaa (qac (qaa qaf))))))) (fun _ h=>h ▸ az.cells) rfl dS fun gK b8=>?_
   refine qaG kz ?_ _
   refine qab ?_
   refine qa0 b8 (b:=true) kz rfl ?_
   refine wp_exit ?_
   refine qaB ?_
   refine qaQ ?_
   refine qab ?_
   refine qaw [0,1] kz ?_
   refine qah [0,1] [] [(5,.v (.int .u32 (qat l))),(6,.v (.slice A_ out.length c_)),(17,.v (.slice A ((u.take 32767).length) c)),(18,.v (.int .i64 (((u.take 32767).length:Nat):Int))),(19,.v (.int .i64 (IntKind.i64.wrap (((k:Nat):Int) + 1))))] az b8 fun gL dT=>?_
   refine qae (qab ?_)
   obtain ⟨cd,dU,bk⟩:=az.cutB dT 0 [] [(5,.v (.int .u32 (qat l))),(6,.v (.slice A_ out.length c_)),(17,.v (.slice A ((u.take 32767).length) c)),(18,.v (.int .i64 (((u.take 32767).length:Nat):Int))),(19,.v (.int .i64 (IntKind.i64.wrap (((k:Nat):Int) + 1))))]
   have dV:IntKind.i64.wrap (((k:Nat):Int) + 1) = ((k + 1:Nat):Int):=qaM (by omega)
   rw [dV] at cd
   exact ⟨(u.take 32767).length - (k + 1),by omega,k + 1,A_,c_,out,css,rfl,by omega,(hT.move (((((ac.trans ae).trans aa).trans ab).trans ak).trans bk).step immM (((((ac.trans ae).trans aa).trans ab).trans ak).trans bk).to'),by rw [qbv aQ,← hout]; exact (qgW ‹_›).symm,by omega,cd.pk,dU,((((((aS.trans ac).trans ae).trans aa).trans ab).trans ak).trans bk)⟩
  have fz:=of_decide_eq_false aM
  have dW:=bZ.cast (env':=[(5,.v (.int .u32 (qat l))),(6,.v (.slice A_ out.length c_)),(8,.p 0 0),(9,.v (.int .i64 ((i:Nat):Int))),(17,.v (.slice A ((u.take 32767).length) c)),(18,.v (.int .i64 (((u.take 32767).length:Nat):Int))),(19,.v (.int .i64 ((k:Nat):Int))),(43,.v (.bool false))]) (by rw [aM])
  refine qaH [5,6,7,8,9] [(5,.v (.int .u32 (qat l))),(6,.v (.slice A_ out.length c_)),(8,.p 0 0),(9,.v (.int .i64 ((i:Nat):Int))),(17,.v (.slice A ((u.take 32767).length) c)),(18,.v (.int .i64 (((u.take 32767).length:Nat):Int))),(19,.v (.int .i64 ((k:Nat):Int))),(43,.v (.bool false)),(48,.v (.bool (decide (((i:Nat):Int) < ((out.length:Nat):Int)))))] 10 (qaa (qaa (qac (qaa (qaa (qac (qaa qaf))))))) (fun _ h=>h ▸ az.cells) rfl dW fun gM dX=>?_
  have dY:(decide (((i:Nat):Int) < ((out.length:Nat):Int))) = false:=aO
  have dZ:=dX.cast (env':=[(5,.v (.int .u32 (qat l))),(6,.v (.slice A_ out.length c_)),(8,.p 0 0),(9,.v (.int .i64 ((i:Nat):Int))),(17,.v (.slice A ((u.take 32767).length) c)),(18,.v (.int .i64 (((u.take 32767).length:Nat):Int))),(19,.v (.int .i64 ((k:Nat):Int))),(43,.v (.bool false)),(48,.v (.bool false))]) (by rw [dY])
  refine qaH [10,11,12,13,14,15,16,17,18,19] [(5,.v (.int .u32 (qat l))),(6,.v (.slice A_ out.length c_)),(8,.p 0 0),(9,.v (.int .i64 ((i:Nat):Int))),(17,.v (.slice A ((u.take 32767).length) c)),(18,.v (.int .i64 (((u.take 32767).length:Nat):Int))),(19,.v (.int .i64 ((k:Nat):Int))),(58,.v (.bool false))] 0 (qaa (qaa (qac (qaa (qaa (qac (qaa qaf))))))) (fun _ h=>h ▸ az.cells) rfl dZ fun gN ce=>?_
  refine qaG kz ?_ _
  refine qab ?_
  refine qap ce (b:=false) kz rfl ?_
  refine wp_skip ?_
  refine qab ?_
  refine qad [0,1,2,3,4] kz ?_
  refine qah [0,1] [2,3,4] [(5,.v (.int .u32 (qat l))),(8,.p 0 0),(9,.v (.int .i64 ((i:Nat):Int))),(17,.v (.slice A ((u.take 32767).length) c)),(18,.v (.int .i64 (((u.take 32767).length:Nat):Int))),(19,.v (.int .i64 ((k:Nat):Int))),(59,.v (.slice A_ out.length c_)),(60,.v (.agg #[.int .u32 0,.slice none 0 0]))] az ce fun gO d5=>?_
  refine qbT az d5 (k:=0) (e:=64) (size:=2) (len:=1) (cs:=[.int .u32 0,.slice none 0 0]) (d1:=61) (d:=62) kz (t:=35) (bytes:=32) kz (fun _=>by kernel_rfl) rfl kz (by omega) fun ah aj gP gQ ao bn ⟨_,d6⟩=>?_
  refine qah [4] [] [(5,.v (.int .u32 (qat l))),(6,.v (.slice ah (out.length + 1) aj)),(8,.p 0 0),(9,.v (.int .i64 ((i:Nat):Int))),(17,.v (.slice A ((u.take 32767).length) c)),(18,.v (.int .i64 (((u.take 32767).length:Nat):Int))),(19,.v (.int .i64 ((k:Nat):Int)))] bn d6 fun gR d7=>?_
  refine qae (qab ?_)
  refine wp_seq ?_
  refine qan [(5,.v (.int .u32 (qat l))),(6,.v (.slice ah (out.length + 1) aj)),(8,.p 0 0),(9,.v (.int .i64 ((i:Nat):Int))),(10,.v (.int .i64 (IntKind.i64.wrap (((out.length + 1:Nat):Int) - 1)))),(17,.v (.slice A ((u.take 32767).length) c)),(18,.v (.int .i64 (((u.take 32767).length:Nat):Int))),(19,.v (.int .i64 ((k:Nat):Int)))] bn d7 fun gS cm=>?_
  refine wp_block ?_
  have hcl0:=(hT.move (((((ac.trans ae).trans aa).trans ab).trans ak).trans ao).step immM (((((ac.trans ae).trans aa).trans ab).trans ak).trans ao).to').len
  have d8:(⟨ah,aj,64,2,out.length + 1,css.flatten ++ [.int .u32 0,.slice none 0 0]⟩:Rw) = ⟨ah,aj,64,2,out.length + 1,(qbo css [.int .u32 0,.slice none 0 0] out.length).flatten⟩:=by rw [qfI hcl0]
  obtain ⟨cq,aw⟩:=bn.rowEq 0 [⟨ah,aj,64,2,out.length + 1,(qbo css [.int .u32 0,.slice none 0 0] out.length).flatten⟩] d8
  have d9:IntKind.i64.wrap (((out.length + 1:Nat):Int) - 1) = ((out.length:Nat):Int):=by rw [wrap_i64 (by omega) (by omega)]; omega
  rw [d9] at cm
  refine wp_loop_ghost (fun n_ a_ w_=>∃ (j:Nat),n_ = j ∧ (i ≤ j) ∧ (j ≤ out.length) ∧ LInv cq 85 [⟨eS,0,[.int .u32 al,.slice aI ax.length aJ],true⟩] [⟨ah,aj,64,2,out.length + 1,(qbo css [.int .u32 0,.slice none 0 0] j).flatten⟩] [(5,.v (.int .u32 (qat l))),(6,.v (.slice ah (out.length + 1) aj)),(8,.p 0 0),(9,.v (.int .i64 ((i:Nat):Int))),(10,.v (.int .i64 ((j:Nat):Int))),(17,.v (.slice A ((u.take 32767).length) c)),(18,.v (.int .i64 (((u.take 32767).length:Nat):Int))),(19,.v (.int .i64 ((k:Nat):Int)))] a_ w_) (out.length) ⟨out.length,rfl,hi,Nat.le_refl _,cm.pk,cq,Fr.refl _ _ _⟩ ?_
  rintro gT gU gV ⟨j,fA,hij,hjl,ea,aA,au⟩
  refine wp_seq ?_
  refine qan [(5,.v (.int .u32 (qat l))),(6,.v (.slice ah (out.length + 1) aj)),(8,.p 0 0),(9,.v (.int .i64 ((i:Nat):Int))),(10,.v (.int .i64 ((j:Nat):Int))),(17,.v (.slice A ((u.take 32767).length) c)),(18,.v (.int .i64 (((u.take 32767).length:Nat):Int))),(19,.v (.int .i64 ((k:Nat):Int))),(68,.v (.bool (decide (((j:Nat):Int) > ((i:Nat):Int)))))] aA ea fun gW bo=>?_
  refine qau bo (b:=decide (((j:Nat):Int) > ((i:Nat):Int))) kz (fun bp=>?_) (fun bp=>?_)
  ·
   have fB:=of_decide_eq_true bp
   refine wp_skip ?_
   refine qab ?_
   refine wp_seq ?_
   refine wp_block ?_
   refine qaw [0,1,2,3,4,5,6,7,8] kz ?_
   refine qah [0,1,2,3,4] [5,6,7,8] [(5,.v (.int .u32 (qat l))),(6,.v (.slice ah (out.length + 1) aj)),(8,.p 0 0),(9,.v (.int .i64 ((i:Nat):Int))),(10,.v (.int .i64 ((j:Nat):Int))),(17,.v (.slice A ((u.take 32767).length) c)),(18,.v (.int .i64 (((u.take 32767).length:Nat):Int))),(19,.v (.int .i64 ((k:Nat):Int))),(71,.v (.slice ah (out.length + 1) aj)),(72,.v (.int .i64 ((j:Nat):Int))),(73,.v (.slice ah (out.length + 1) aj)),(75,.v (.int .i64 (IntKind.i64.wrap (((j:Nat):Int) - 1))))] aA bo fun gX eb=>?_
   obtain ⟨ec,cr⟩:=qb8 (aA.own 0 _ rfl) (show 0 < out.length + 1 by omega)
   obtain ⟨⟨bD,bE⟩,ee⟩:∃ x,out[j - 1]? = some x:=⟨_,List.getElem?_eq_getElem (by omega)⟩
   obtain ⟨bF,bG,cu,fC,gY,gZ⟩:=TagsE.get2 (hT.move (((((((ac.trans ae).trans aa).trans ab).trans ak).trans ao).trans aw).trans au).step immM (((((((ac.trans ae).trans aa).trans ab).trans ak).trans ao).trans aw).trans au).to') ee
   have cL:=qfH (aA.own 0 _ rfl) cr (qcR (qdh (hT.move (((((((ac.trans ae).trans aa).trans ab).trans ak).trans ao).trans aw).trans au).step immM (((((((ac.trans ae).trans aa).trans ab).trans ak).trans ao).trans aw).trans au).to').two rfl j) (qeZ (show j - 1 < j by omega) cu))
   refine qam (qaz eb (t:=35) (A:=ah) (m:=(out.length + 1)) (q:=(IntKind.i64.wrap (((j:Nat):Int) - 1))) (d:=76) kz (e:=64) (size:=2) (bytes:=32) kz (b:=ec) (o:=0) (j:=(j - 1)) cr (by rw [wrap_i64 (by omega) (by omega)]; omega) (by omega) fun g6 ef=>?_)
   refine qam (qaE ef (t:=64) (b:=ec) (o:=0 + (j - 1) * 2) (d:=77) kz (cs:=[.int .u32 bD,.slice bF bE.length bG]) (v:=.agg #[.int .u32 bD,.slice bF bE.length bG]) kz cL fun g7 eg=>?_)
   obtain ⟨eh,cw⟩:=qb8 (aA.own 0 _ rfl) (show 0 < out.length + 1 by omega)
   refine qam (qaz eg (t:=35) (A:=ah) (m:=(out.length + 1)) (q:=((j:Nat):Int)) (d:=78) kz (e:=64) (size:=2) (bytes:=32) kz (b:=eh) (o:=0) (j:=j) cw (rfl) (by omega) fun g8 ei=>?_)
   refine qam (qcp aA ei (k:=0) (g:=eh) (o:=j * 2) (c:=aj) (m:=(out.length + 1)) (size:=2) (e:=64) (A:=ah) (xs:=((qbo css [.int .u32 0,.slice none 0 0] j).flatten)) (vs:=[.int .u32 bD,.slice bF bE.length bG]) kz rfl cw (by simp only [List.length_cons,List.length_nil]; omega) fun g9 bq cz ej=>?_)
   refine qae ?_
   refine qar ?_
   refine qab ?_
   refine qaw [0,1,2] kz ?_
   refine qah [0,1,2] [] [(5,.v (.int .u32 (qat l))),(6,.v (.slice ah (out.length + 1) aj)),(8,.p 0 0),(9,.v (.int .i64 ((i:Nat):Int))),(10,.v (.int .i64 (IntKind.i64.wrap (((j:Nat):Int) - 1)))),(17,.v (.slice A ((u.take 32767).length) c)),(18,.v (.int .i64 (((u.take 32767).length:Nat):Int))),(19,.v (.int .i64 ((k:Nat):Int)))] cz ej fun hC cA=>?_
   refine qae (qab ?_)
   have ek:(⟨ah,aj,64,2,out.length + 1,qba ((qbo css [.int .u32 0,.slice none 0 0] j).flatten) (j * 2) [.int .u32 bD,.slice bF bE.length bG]⟩:Rw) = ⟨ah,aj,64,2,out.length + 1,(qbo css [.int .u32 0,.slice none 0 0] (j - 1)).flatten⟩:=by rw [qe0 (hT.move ((((((((ac.trans ae).trans aa).trans ab).trans ak).trans ao).trans aw).trans au).trans bq).step immM ((((((((ac.trans ae).trans aa).trans ab).trans ak).trans ao).trans aw).trans au).trans bq).to').two rfl (by omega) (by omega) cu]
   obtain ⟨em,eo⟩:=cz.rowEq 0 [⟨ah,aj,64,2,out.length + 1,(qbo css [.int .u32 0,.slice none 0 0] (j - 1)).flatten⟩] ek
   have ep:IntKind.i64.wrap (((j:Nat):Int) - 1) = ((j - 1:Nat):Int):=by rw [wrap_i64 (by omega) (by omega)]; omega
   rw [ep] at cA
   exact ⟨(j - 1),by omega,(j - 1),rfl,by omega,by omega,cA.pk,em,((au.trans bq).trans eo)⟩
  have fD:=of_decide_eq_false bp
  refine wp_exit ?_
  refine qaB ?_
  refine qaB ?_
  refine qaQ ?_
  refine qab ?_
  refine qaw [0,1,2,3,4] kz ?_
  refine qah [0,1,2] [3,4] [(5,.v (.int .u32 (qat l))),(6,.v (.slice ah (out.length + 1) aj)),(17,.v (.slice A ((u.take 32767).length) c)),(18,.v (.int .i64 (((u.take 32767).length:Nat):Int))),(19,.v (.int .i64 ((k:Nat):Int))),(79,.v (.slice ah (out.length + 1) aj)),(80,.v (.int .i64 ((i:Nat):Int))),(81,.v (.agg #[.int .u32 al,.slice aI ax.length aJ]))] aA bo fun hJ eu=>?_
  have hji:j = i:=by omega
  have ew:(⟨ah,aj,64,2,out.length + 1,(qbo css [.int .u32 0,.slice none 0 0] j).flatten⟩:Rw) = ⟨ah,aj,64,2,out.length + 1,(qbo css [.int .u32 0,.slice none 0 0] i).flatten⟩:=by rw [hji]
  obtain ⟨cB,aF⟩:=aA.rowEq 0 [⟨ah,aj,64,2,out.length + 1,(qbo css [.int .u32 0,.slice none 0 0] i).flatten⟩] ew
  obtain ⟨ey,cC⟩:=qb8 (cB.own 0 _ rfl) (show 0 < out.length + 1 by omega)
  refine qam (qaz eu (t:=35) (A:=ah) (m:=(out.length + 1)) (q:=((i:Nat):Int)) (d:=82) kz (e:=64) (size:=2) (bytes:=32) kz (b:=ey) (o:=0) (j:=i) cC (rfl) (by omega) fun hK ez=>?_)
  refine qam (qcp cB ez (k:=0) (g:=ey) (o:=i * 2) (c:=aj) (m:=(out.length + 1)) (size:=2) (e:=64) (A:=ah) (xs:=((qbo css [.int .u32 0,.slice none 0 0] i).flatten)) (vs:=[.int .u32 al,.slice aI ax.length aJ]) kz rfl cC (by simp only [List.length_cons,List.length_nil]; omega) fun hZ aG cD eB=>?_)
  refine qae ?_
  refine qar ?_
  refine qab ?_
  refine qaw [0,1] kz ?_
  refine qah [0,1] [] [(5,.v (.int .u32 (qat l))),(6,.v (.slice ah (out.length + 1) aj)),(17,.v (.slice A ((u.take 32767).length) c)),(18,.v (.int .i64 (((u.take 32767).length:Nat):Int))),(19,.v (.int .i64 (IntKind.i64.wrap (((k:Nat):Int) + 1))))] cD eB fun ia eC=>?_
  refine qae (qab ?_)
  obtain ⟨bt,eD,aH⟩:=cD.cutB eC 0 [] [(5,.v (.int .u32 (qat l))),(6,.v (.slice ah (out.length + 1) aj)),(17,.v (.slice A ((u.take 32767).length) c)),(18,.v (.int .i64 (((u.take 32767).length:Nat):Int))),(19,.v (.int .i64 (IntKind.i64.wrap (((k:Nat):Int) + 1))))]
  have hcl:=(hT.move ((((((((((ac.trans ae).trans aa).trans ab).trans ak).trans ao).trans aw).trans au).trans aF).trans aG).trans aH).step immM ((((((((((ac.trans ae).trans aa).trans ab).trans ak).trans ao).trans aw).trans au).trans aF).trans aG).trans aH).to').len
  have eE:(⟨ah,aj,64,2,out.length + 1,qba ((qbo css [.int .u32 0,.slice none 0 0] i).flatten) (i * 2) [.int .u32 al,.slice aI ax.length aJ]⟩:Rw) = ⟨ah,aj,64,2,(out.take i ++ (al,ax) :: out.drop i).length,(css.take i ++ [.int .u32 al,.slice aI ax.length aJ] :: css.drop i).flatten⟩:=by rw [qe1 (hT.move ((((((((((ac.trans ae).trans aa).trans ab).trans ak).trans ao).trans aw).trans au).trans aF).trans aG).trans aH).step immM ((((((((((ac.trans ae).trans aa).trans ab).trans ak).trans ao).trans aw).trans au).trans aF).trans aG).trans aH).to').two rfl (by omega) rfl,qbV (al,ax) hi]
  obtain ⟨bu,bw⟩:=eD.rowEq 0 [⟨ah,aj,64,2,(out.take i ++ (al,ax) :: out.drop i).length,(css.take i ++ [.int .u32 al,.slice aI ax.length aJ] :: css.drop i).flatten⟩] eE
  have eF:IntKind.i64.wrap (((k:Nat):Int) + 1) = ((k + 1:Nat):Int):=qaM (by omega)
  rw [eF] at bt
  have eG:out.length + 1 = (out.take i ++ (al,ax) :: out.drop i).length:=qbV (al,ax) hi
  rw [eG] at bt
  exact ⟨(u.take 32767).length - (k + 1),by omega,k + 1,ah,aj,(out.take i ++ (al,ax) :: out.drop i),(css.take i ++ [.int .u32 al,.slice aI ax.length aJ] :: css.drop i),rfl,by omega,(hT.move (((((((((((ac.trans ae).trans aa).trans ab).trans ak).trans ao).trans aw).trans au).trans aF).trans aG).trans aH).trans bw).step immM (((((((((((ac.trans ae).trans aa).trans ab).trans ak).trans ao).trans aw).trans au).trans aF).trans aG).trans aH).trans bw).to').ins ⟨⟨aI,aJ,rfl,(cO.move bu.step nilM bu.imm)⟩,fh,fi⟩ hi,by rw [qbv aQ,← hout]; exact (qgX (qdR hi hlt (fun h_=>absurd h_ (by omega))) ‹_› (fun h_=>absurd h_ (by omega))).symm,by rw [← qbV (al,ax) hi]; omega,bt.pk,bu,((((((((((((aS.trans ac).trans ae).trans aa).trans ab).trans ak).trans ao).trans aw).trans au).trans aF).trans aG).trans aH).trans bw)⟩
 have fE:=of_decide_eq_false cG
 refine wp_exit ?_
 refine qaB ?_
 refine qaB ?_
 refine qaQ ?_
 refine qab ?_
 refine qan [(4,.v (.slice A_ out.length c_))] aP cE fun ib eH=>?_
 refine wp_ret ?_
 refine qaD eH aP.cells (v:=.slice A_ out.length c_) kz ?_
 exact qfp aP (k:=0) rfl rfl rfl hT (by omega) (by rw [hout,List.take_of_length_le (by omega)]; rfl)
def qhm (d:Nat):Prop:=∀ (cf:List Value) (f:Fld) (ct:List Value) (t:Tree) (w:World) (F:Nat → Nat → Prop),FldR w F cf f → f.depth ≤ d → TreeR w F ct t →
  Calls Tryd.prog 50 #[.agg cf.toArray,.agg ct.toArray] w (qbD w (.bool (f.usual t)))
theorem qfw {d:Nat} (hu:qhm d) (cf:List Value) (f:Fld) (ct:List Value) (t:Tree) (w:World) (F:Nat → Nat → Prop) (hf:FldR w F cf f) (hd:f.depth ≤ d + 1) (ht:TreeR w F ct t) :
  Calls Tryd.prog 50 #[.agg cf.toArray,.agg ct.toArray] w (qbD w (.bool (f.usual t))):=by
 obtain ⟨k1,y2,y3,y4,y5,y6,y7,l8,A9,aA,dG,rfl,rfl,dH,eu⟩:=hf.open_
 have ew:=dH.small
 obtain ⟨af,ab,aC,aK,aB,ah,ai,bU,bV,bw,bx,fj,rfl,rfl,ey,fk,gO,fl⟩:=ht.open_
 have ez:=ey.small
 have eB:=fk.small
 refine enter (n:=91) Tryd.func50 rfl Tryd.ntmps50 kz fun a hE=>?_
 have hW:=WOk.start w Nil
 refine qad [0,1,2] kz ?_
 refine qam (qaY hW hE (d:=2) (cs:=[.int .i64 k1,.int .i64 y2,.int .i64 y3,.int .i64 y4,.int .i64 y5,.int .i64 y6,.int .i64 y7,.slice A9 l8.length aA]) kz fun dI gP gQ fm fo fq dJ dK=>?_)
 refine qam (qaY dJ dK (d:=3) (cs:=[.int .i64 af,.slice ah ab.length ai,.bool aC,.slice bU aK.length bV,.slice bw aB.length bx]) kz fun dL gR gS fr ft fu aa dM=>?_)
 refine qah [2] [] [(2,.p 0 0),(3,.p 1 0)] aa dM fun gT dN=>?_
 refine qae (qab ?_)
 refine wp_seq ?_
 refine qan [(2,.p 0 0),(3,.p 1 0),(10,.v (.int .i64 k1))] aa dN fun gU dO=>?_
 refine wp_block ?_
 refine qan [(2,.p 0 0),(3,.p 1 0),(10,.v (.int .i64 k1)),(11,.v (.bool (k1 == 0)))] aa dO fun gV bO=>?_
 refine qau bO (b:=k1 == 0) kz (fun bP=>?_) (fun bP=>?_)
 ·
  have fv:k1 = 0:=by simpa using bP
  refine qan [(4,.v (.bool ((IntKind.i64.wrap (BitVec.ofInt 64 af &&& BitVec.ofInt 64 1).toNat) == y6)))] aa bO fun gW dP=>?_
  refine wp_ret ?_
  refine qaq ?_
  refine qal ?_
  refine qaD dP aa.cells (v:=.bool ((IntKind.i64.wrap (BitVec.ofInt 64 af &&& BitVec.ofInt 64 1).toNat) == y6)) kz ?_
  refine ⟨congrArg (fun b_=>Ending.returned (Value.bool b_)) ?_,aa.step⟩
  first
   | (rw [qb0 ‹_›]; simp only [and1]; done)
   | (rw [qbh ‹_› ‹_›]; exact qbf hz (by omega); done)
   | (rw [qbh ‹_› ‹_›]; exact qbc (k:=k) (by omega) (by omega) ‹_›; done)
   | (rw [qbw ‹_› ‹_› (by omega) ‹_›]; done)
   | (rw [qbE ‹_› ‹_› (by omega) ‹_›]; done)
   | (rw [qbF ‹_› ‹_› ‹_› ‹_› ‹_›]; done)
   | (rw [qbx ‹_› ‹_› ‹_› ‹_› ‹_› ‹_›,huu,qbn (by omega),Bool.true_and]; done)
   | (rw [qbm ‹_› ‹_› ‹_› ‹_› ‹_› ‹_›]; done)
 have fw:k1 ≠ 0:=by simpa using bP
 refine qan [(2,.p 0 0),(3,.p 1 0),(10,.v (.int .i64 k1)),(19,.v (.bool (k1 == 7)))] aa bO fun gX bQ=>?_
 refine qau bQ (b:=k1 == 7) kz (fun bR=>?_) (fun bR=>?_)
 ·
  have fx:k1 = 7:=by simpa using bR
  refine wp_seq ?_
  refine qan [(22,.v (.slice ah ab.length ai)),(23,.v (.int .i64 ((ab.length:Nat):Int))),(24,.v (.int .i64 0))] aa bQ fun gY dQ=>?_
  refine wp_block ?_
  refine wp_loop_ghost (fun n_ a_ w_=>∃ (k:Nat),n_ = ab.length - k ∧ k ≤ ab.length ∧ (∀ q,q < k → q < 16 → (((ab.getD q 0).toNat:Nat):Int) = 0) ∧ LInv aa 91 [⟨dI,0,[.int .i64 k1,.int .i64 y2,.int .i64 y3,.int .i64 y4,.int .i64 y5,.int .i64 y6,.int .i64 y7,.slice A9 l8.length aA],true⟩,⟨dL,0,[.int .i64 af,.slice ah ab.length ai,.bool aC,.slice bU aK.length bV,.slice bw aB.length bx],true⟩] [] [(22,.v (.slice ah ab.length ai)),(23,.v (.int .i64 ((ab.length:Nat):Int))),(24,.v (.int .i64 ((k:Nat):Int)))] a_ w_) (ab.length) ⟨0,by omega,by omega,fun q h_=>absurd h_ (Nat.not_lt_zero q),dQ.pk,aa,Fr.refl _ _ _⟩ ?_
  rintro gZ g6 g7 ⟨k,fy,fz,hz,dR,ae,bW⟩
  refine qan [(22,.v (.slice ah ab.length ai)),(23,.v (.int .i64 ((ab.length:Nat):Int))),(24,.v (.int .i64 ((k:Nat):Int))),(25,.v (.bool (decide (((k:Nat):Int) < ((ab.length:Nat):Int)))))] ae dR fun g8 bS=>?_
  refine wp_seq ?_
  refine qau bS (b:=decide (((k:Nat):Int) < ((ab.length:Nat):Int))) kz (fun bT=>?_) (fun bT=>?_)
  ·
   have fA:=of_decide_eq_true bT
   refine wp_skip ?_
   refine qab ?_
   refine wp_seq ?_
   refine wp_block ?_
   refine qad [0,1,2,3,4] kz ?_
   refine qah [0] [1,2,3,4] [(22,.v (.slice ah ab.length ai)),(23,.v (.int .i64 ((ab.length:Nat):Int))),(24,.v (.int .i64 ((k:Nat):Int))),(26,.v (.int .i64 ((k:Nat):Int)))] ae bS fun g9 dS=>?_
   obtain ⟨fB,fC,dT,fD,bX⟩:=Slots.get ey (i:=k) (by omega)
   refine qam (qaz dS (t:=22) (A:=ah) (m:=ab.length) (q:=((k:Nat):Int)) (d:=27) kz (e:=5) (size:=1) (bytes:=1) kz dT rfl (by omega) fun hC dU=>?_)
   refine qam (qaE dU (t:=5) (b:=fB) (o:=fC + k * 1) (d:=28) kz (cs:=[.int .u8 ((ab.getD k 0).toNat:Int)]) (v:=.int .u8 ((ab.getD k 0).toNat:Int)) kz (AtF.move bX ae.step nilM qaZ).at_ fun hJ dV=>?_)
   refine qah [3,4] [] [(5,.v (.int .i64 ((k:Nat):Int))),(6,.v (.int .u8 ((ab.getD k 0).toNat:Int))),(22,.v (.slice ah ab.length ai)),(23,.v (.int .i64 ((ab.length:Nat):Int))),(24,.v (.int .i64 ((k:Nat):Int)))] ae dV fun hK dW=>?_
   refine qae (qab ?_)
   refine qad [0,1,2,3,4,5] kz ?_
   refine qah [0,1,2] [3,4,5] [(6,.v (.int .u8 ((ab.getD k 0).toNat:Int))),(22,.v (.slice ah ab.length ai)),(23,.v (.int .i64 ((ab.length:Nat):Int))),(24,.v (.int .i64 ((k:Nat):Int))),(31,.v (.bool (decide (((k:Nat):Int) < 16))))] ae dW fun hZ bY=>?_
   refine (Bool.eq_false_or_eq_true (decide (((k:Nat):Int) < 16))).elim (fun aL=>?_) (fun aL=>?_)
   ·
    have fE:=of_decide_eq_true aL
    have dX:=bY.cast (env':=[(6,.v (.int .u8 ((ab.getD k 0).toNat:Int))),(22,.v (.slice ah ab.length ai)),(23,.v (.int .i64 ((ab.length:Nat):Int))),(24,.v (.int .i64 ((k:Nat):Int))),(31,.v (.bool true))]) (by rw [aL])
    refine qah [3,4,5] [] [(22,.v (.slice ah ab.length ai)),(23,.v (.int .i64 ((ab.length:Nat):Int))),(24,.v (.int .i64 ((k:Nat):Int))),(34,.v (.bool (((ab.getD k 0).toNat:Int) != 0)))] ae dX fun ia aM=>?_
    refine qae (qab ?_)
    refine qau aM (b:=((ab.getD k 0).toNat:Int) != 0) kz (fun aO=>?_) (fun aO=>?_)
    ·
     have eC:((ab.getD k 0).toNat:Int) ≠ 0:=by simpa using aO
     refine qan [(4,.v (.bool false))] ae aM fun fF bZ=>?_
     refine wp_ret ?_
     refine qaq ?_
     refine qal ?_
     refine qal ?_
     refine qaq ?_
     refine qal ?_
     refine qaq ?_
     refine qal ?_
     refine qaD bZ ae.cells (v:=.bool false) kz ?_
     refine ⟨congrArg (fun b_=>Ending.returned (Value.bool b_)) ?_,ae.step⟩
     first
      | (rw [qb0 ‹_›]; simp only [and1]; done)
      | (rw [qbh ‹_› ‹_›]; exact qbf hz (by omega); done)
      | (rw [qbh ‹_› ‹_›]; exact qbc (k:=k) (by omega) (by omega) ‹_›; done)
      | (rw [qbw ‹_› ‹_› (by omega) ‹_›]; done)
      | (rw [qbE ‹_› ‹_› (by omega) ‹_›]; done)
      | (rw [qbF ‹_› ‹_› ‹_› ‹_› ‹_›]; done)
      | (rw [qbx ‹_› ‹_› ‹_› ‹_› ‹_› ‹_›,huu,qbn (by omega),Bool.true_and]; done)
      | (rw [qbm ‹_› ‹_› ‹_› ‹_› ‹_› ‹_›]; done)
    have eD:((ab.getD k 0).toNat:Int) = 0:=by simpa using aO
    refine wp_skip ?_
    refine qar ?_
    refine qab ?_
    refine qaw [0,1] kz ?_
    refine qah [0,1] [] [(22,.v (.slice ah ab.length ai)),(23,.v (.int .i64 ((ab.length:Nat):Int))),(24,.v (.int .i64 (IntKind.i64.wrap (((k:Nat):Int) + 1))))] ae aM fun fG bz=>?_
    refine qae (qab ?_)
    have b8:IntKind.i64.wrap (((k:Nat):Int) + 1) = ((k + 1:Nat):Int):=qaM (by omega)
    rw [b8] at bz
    exact ⟨ab.length - (k + 1),by omega,k + 1,rfl,by omega,fun q hq cd=>by rcases Nat.lt_succ_iff_lt_or_eq.1 hq with h_ | h_; exact hz q h_ cd; rw [h_] at cd ⊢; first | assumption | omega,bz.pk,ae,bW⟩
   have eE:=of_decide_eq_false aL
   have ce:=bY.cast (env':=[(6,.v (.int .u8 ((ab.getD k 0).toNat:Int))),(22,.v (.slice ah ab.length ai)),(23,.v (.int .i64 ((ab.length:Nat):Int))),(24,.v (.int .i64 ((k:Nat):Int))),(31,.v (.bool false))]) (by rw [aL])
   refine qah [3,4,5] [] [(22,.v (.slice ah ab.length ai)),(23,.v (.int .i64 ((ab.length:Nat):Int))),(24,.v (.int .i64 ((k:Nat):Int))),(34,.v (.bool false))] ae ce fun fH bA=>?_
   refine qae (qab ?_)
   refine qap bA (b:=false) kz rfl ?_
   refine wp_skip ?_
   refine qar ?_
   refine qab ?_
   refine qaw [0,1] kz ?_
   refine qah [0,1] [] [(22,.v (.slice ah ab.length ai)),(23,.v (.int .i64 ((ab.length:Nat):Int))),(24,.v (.int .i64 (IntKind.i64.wrap (((k:Nat):Int) + 1))))] ae bA fun fI bB=>?_
   refine qae (qab ?_)
   have cm:IntKind.i64.wrap (((k:Nat):Int) + 1) = ((k + 1:Nat):Int):=qaM (by omega)
   rw [cm] at bB
   exact ⟨ab.length - (k + 1),by omega,k + 1,rfl,by omega,fun q hq cd=>by rcases Nat.lt_succ_iff_lt_or_eq.1 hq with h_ | h_; exact hz q h_ cd; rw [h_] at cd ⊢; first | assumption | omega,bB.pk,ae,bW⟩
  have eF:=of_decide_eq_false bT
  refine wp_exit ?_
  refine qaB ?_
  refine qaB ?_
  refine qaQ ?_
  refine qab ?_
  refine qan [(4,.v (.bool true))] ae bS fun fJ cq=>?_
  refine wp_ret ?_
  refine qaq ?_
  refine qal ?_
  refine qaD cq ae.cells (v:=.bool true) kz ?_
  refine ⟨congrArg (fun b_=>Ending.returned (Value.bool b_)) ?_,ae.step⟩
  first
   | (rw [qb0 ‹_›]; simp only [and1]; done)
   | (rw [qbh ‹_› ‹_›]; exact qbf hz (by omega); done)
   | (rw [qbh ‹_› ‹_›]; exact qbc (k:=k) (by omega) (by omega) ‹_›; done)
   | (rw [qbw ‹_› ‹_› (by omega) ‹_›]; done)
   | (rw [qbE ‹_› ‹_› (by omega) ‹_›]; done)
   | (rw [qbF ‹_› ‹_› ‹_› ‹_› ‹_›]; done)
   | (rw [qbx ‹_› ‹_› ‹_› ‹_› ‹_› ‹_›,huu,qbn (by omega),Bool.true_and]; done)
   | (rw [qbm ‹_› ‹_› ‹_› ‹_› ‹_› ‹_›]; done)
 have eG:k1 ≠ 7:=by simpa using bR
 refine wp_seq ?_
 refine qan [(2,.p 0 0),(3,.p 1 0),(10,.v (.int .i64 k1)),(36,.v (.bool (k1 == 8)))] aa bQ fun fK aD=>?_
 refine qau aD (b:=k1 == 8) kz (fun aE=>?_) (fun aE=>?_)
 ·
  have eH:k1 = 8:=by simpa using aE
  refine wp_skip ?_
  refine qab ?_
  refine qa0 aD (b:=k1 == 8) kz (aE) ?_
  refine wp_seq ?_
  refine qan [(3,.p 1 0),(41,.v (.bool (decide (y4 ≥ 0))))] aa aD fun fL aP=>?_
  refine qau aP (b:=decide (y4 ≥ 0)) kz (fun aQ=>?_) (fun aQ=>?_)
  ·
   have eI:=of_decide_eq_true aQ
   refine qan [(4,.v (.bool aC))] aa aP fun fM cr=>?_
   refine wp_ret ?_
   refine qal ?_
   refine qaq ?_
   refine qal ?_
   refine qaD cr aa.cells (v:=.bool aC) kz ?_
   refine ⟨congrArg (fun b_=>Ending.returned (Value.bool b_)) ?_,aa.step⟩
   first
    | (rw [qb0 ‹_›]; simp only [and1]; done)
    | (rw [qbh ‹_› ‹_›]; exact qbf hz (by omega); done)
    | (rw [qbh ‹_› ‹_›]; exact qbc (k:=k) (by omega) (by omega) ‹_›; done)
    | (rw [qbw ‹_› ‹_› (by omega) ‹_›]; done)
    | (rw [qbE ‹_› ‹_› (by omega) ‹_›]; done)
    | (rw [qbF ‹_› ‹_› ‹_› ‹_› ‹_›]; done)
    | (rw [qbx ‹_› ‹_› ‹_› ‹_› ‹_› ‹_›,huu,qbn (by omega),Bool.true_and]; done)
    | (rw [qbm ‹_› ‹_› ‹_› ‹_› ‹_› ‹_›]; done)
  have eJ:=of_decide_eq_false aQ
  refine wp_skip ?_
  refine qab ?_
  refine qan [(4,.v (.bool (((ab.length:Nat):Int) == 0)))] aa aP fun fN cu=>?_
  refine wp_ret ?_
  refine qaq ?_
  refine qal ?_
  refine qaD cu aa.cells (v:=.bool (((ab.length:Nat):Int) == 0)) kz ?_
  refine ⟨congrArg (fun b_=>Ending.returned (Value.bool b_)) ?_,aa.step⟩
  first
   | (rw [qb0 ‹_›]; simp only [and1]; done)
   | (rw [qbh ‹_› ‹_›]; exact qbf hz (by omega); done)
   | (rw [qbh ‹_› ‹_›]; exact qbc (k:=k) (by omega) (by omega) ‹_›; done)
   | (rw [qbw ‹_› ‹_› (by omega) ‹_›]; done)
   | (rw [qbE ‹_› ‹_› (by omega) ‹_›]; done)
   | (rw [qbF ‹_› ‹_› ‹_› ‹_› ‹_›]; done)
   | (rw [qbx ‹_› ‹_› ‹_› ‹_› ‹_› ‹_›,huu,qbn (by omega),Bool.true_and]; done)
   | (rw [qbm ‹_› ‹_› ‹_› ‹_› ‹_› ‹_›]; done)
 have eK:k1 ≠ 8:=by simpa using aE
 refine qaw [0,1] kz ?_
 refine qah [0,1] [] [(2,.p 0 0),(3,.p 1 0),(10,.v (.int .i64 k1)),(36,.v (.bool (k1 == 9)))] aa aD fun fO aR=>?_
 refine qae (qab ?_)
 refine qau aR (b:=k1 == 9) kz (fun aS=>?_) (fun aS=>?_)
 ·
  have eL:k1 = 9:=by simpa using aS
  refine wp_seq ?_
  refine qan [(3,.p 1 0),(41,.v (.bool (decide (y4 ≥ 0))))] aa aR fun fP aT=>?_
  refine qau aT (b:=decide (y4 ≥ 0)) kz (fun aU=>?_) (fun aU=>?_)
  ·
   have eM:=of_decide_eq_true aU
   refine qan [(4,.v (.bool aC))] aa aT fun fQ cw=>?_
   refine wp_ret ?_
   refine qal ?_
   refine qaq ?_
   refine qal ?_
   refine qaD cw aa.cells (v:=.bool aC) kz ?_
   refine ⟨congrArg (fun b_=>Ending.returned (Value.bool b_)) ?_,aa.step⟩
   first
    | (rw [qb0 ‹_›]; simp only [and1]; done)
    | (rw [qbh ‹_› ‹_›]; exact qbf hz (by omega); done)
    | (rw [qbh ‹_› ‹_›]; exact qbc (k:=k) (by omega) (by omega) ‹_›; done)
    | (rw [qbw ‹_› ‹_› (by omega) ‹_›]; done)
    | (rw [qbE ‹_› ‹_› (by omega) ‹_›]; done)
    | (rw [qbF ‹_› ‹_› ‹_› ‹_› ‹_›]; done)
    | (rw [qbx ‹_› ‹_› ‹_› ‹_› ‹_› ‹_›,huu,qbn (by omega),Bool.true_and]; done)
    | (rw [qbm ‹_› ‹_› ‹_› ‹_› ‹_› ‹_›]; done)
  have eN:=of_decide_eq_false aU
  refine wp_skip ?_
  refine qab ?_
  refine qan [(4,.v (.bool (((ab.length:Nat):Int) == 0)))] aa aT fun fR cz=>?_
  refine wp_ret ?_
  refine qaq ?_
  refine qal ?_
  refine qaD cz aa.cells (v:=.bool (((ab.length:Nat):Int) == 0)) kz ?_
  refine ⟨congrArg (fun b_=>Ending.returned (Value.bool b_)) ?_,aa.step⟩
  first
   | (rw [qb0 ‹_›]; simp only [and1]; done)
   | (rw [qbh ‹_› ‹_›]; exact qbf hz (by omega); done)
   | (rw [qbh ‹_› ‹_›]; exact qbc (k:=k) (by omega) (by omega) ‹_›; done)
   | (rw [qbw ‹_› ‹_› (by omega) ‹_›]; done)
   | (rw [qbE ‹_› ‹_› (by omega) ‹_›]; done)
   | (rw [qbF ‹_› ‹_› ‹_› ‹_› ‹_›]; done)
   | (rw [qbx ‹_› ‹_› ‹_› ‹_› ‹_› ‹_›,huu,qbn (by omega),Bool.true_and]; done)
   | (rw [qbm ‹_› ‹_› ‹_› ‹_› ‹_› ‹_›]; done)
 have eO:k1 ≠ 9:=by simpa using aS
 refine qan [(2,.p 0 0),(3,.p 1 0),(10,.v (.int .i64 k1)),(48,.v (.bool (k1 == 11)))] aa aR fun fS aV=>?_
 refine qau aV (b:=k1 == 11) kz (fun aW=>?_) (fun aW=>?_)
 ·
  have eP:k1 = 11:=by simpa using aW
  refine qan [(4,.v (.bool (((aK.length:Nat):Int) == 0)))] aa aV fun fT cA=>?_
  refine wp_ret ?_
  refine qaq ?_
  refine qal ?_
  refine qaD cA aa.cells (v:=.bool (((aK.length:Nat):Int) == 0)) kz ?_
  refine ⟨congrArg (fun b_=>Ending.returned (Value.bool b_)) ?_,aa.step⟩
  first
   | (rw [qb0 ‹_›]; simp only [and1]; done)
   | (rw [qbh ‹_› ‹_›]; exact qbf hz (by omega); done)
   | (rw [qbh ‹_› ‹_›]; exact qbc (k:=k) (by omega) (by omega) ‹_›; done)
   | (rw [qbw ‹_› ‹_› (by omega) ‹_›]; done)
   | (rw [qbE ‹_› ‹_› (by omega) ‹_›]; done)
   | (rw [qbF ‹_› ‹_› ‹_› ‹_› ‹_›]; done)
   | (rw [qbx ‹_› ‹_› ‹_› ‹_› ‹_› ‹_›,huu,qbn (by omega),Bool.true_and]; done)
   | (rw [qbm ‹_› ‹_› ‹_› ‹_› ‹_› ‹_›]; done)
 have eQ:k1 ≠ 11:=by simpa using aW
 refine qan [(2,.p 0 0),(3,.p 1 0),(54,.v (.bool (k1 == 10)))] aa aV fun fU aX=>?_
 refine qau aX (b:=k1 == 10) kz (fun aY=>?_) (fun aY=>?_)
 ·
  have eR:k1 = 10:=by simpa using aY
  refine wp_seq ?_
  refine qan [(2,.p 0 0),(3,.p 1 0),(57,.v (.slice A9 l8.length aA)),(58,.v (.int .i64 ((l8.length:Nat):Int))),(59,.v (.int .i64 0))] aa aX fun fV cB=>?_
  refine wp_block ?_
  refine wp_loop_ghost (fun n_ a_ w_=>∃ (k:Nat),n_ = l8.length - k ∧ k ≤ l8.length ∧ (usuals l8 (Tree.mk af ab aC aK aB) 0 = usuals (l8.drop k) (Tree.mk af ab aC aK aB) k) ∧ LInv aa 91 [⟨dI,0,[.int .i64 k1,.int .i64 y2,.int .i64 y3,.int .i64 y4,.int .i64 y5,.int .i64 y6,.int .i64 y7,.slice A9 l8.length aA],true⟩,⟨dL,0,[.int .i64 af,.slice ah ab.length ai,.bool aC,.slice bU aK.length bV,.slice bw aB.length bx],true⟩] [] [(2,.p 0 0),(3,.p 1 0),(57,.v (.slice A9 l8.length aA)),(58,.v (.int .i64 ((l8.length:Nat):Int))),(59,.v (.int .i64 ((k:Nat):Int)))] a_ w_) (l8.length) ⟨0,by omega,by omega,rfl,cB.pk,aa,Fr.refl _ _ _⟩ ?_
  rintro fW fX fY ⟨k,eS,eU,huu,cC,ac,cD⟩
  refine qan [(2,.p 0 0),(3,.p 1 0),(57,.v (.slice A9 l8.length aA)),(58,.v (.int .i64 ((l8.length:Nat):Int))),(59,.v (.int .i64 ((k:Nat):Int))),(60,.v (.bool (decide (((k:Nat):Int) < ((l8.length:Nat):Int)))))] ac cC fun fZ aZ=>?_
  refine wp_seq ?_
  refine qau aZ (b:=decide (((k:Nat):Int) < ((l8.length:Nat):Int))) kz (fun ba=>?_) (fun ba=>?_)
  ·
   have eV:=of_decide_eq_true ba
   refine wp_skip ?_
   refine qab ?_
   refine wp_seq ?_
   refine wp_block ?_
   refine qad [0,1,2,3,4,5] kz ?_
   refine qah [0] [1,2,3,4,5] [(2,.p 0 0),(3,.p 1 0),(57,.v (.slice A9 l8.length aA)),(58,.v (.int .i64 ((l8.length:Nat):Int))),(59,.v (.int .i64 ((k:Nat):Int))),(61,.v (.int .i64 ((k:Nat):Int)))] ac aZ fun f5 cE=>?_
   obtain ⟨dY,dZ,cG,eW,bf⟩:=Slots.get dH (i:=k) (by omega)
   obtain ⟨d5,aF⟩:∃ x,l8[k]? = some x:=⟨_,List.getElem?_eq_getElem (by omega)⟩
   have bg:=eu k d5 aF
   obtain ⟨aj,ak,al,am,ao,ap,ar,au,aI,aJ,eX,rfl,bh,d6,f7⟩:=bg.open_
   rw [bh] at bg
   have d7:=d6.small
   rw [bh] at bf
   refine qam (qaz cE (t:=30) (A:=A9) (m:=l8.length) (q:=((k:Nat):Int)) (d:=62) kz (e:=60) (size:=8) (bytes:=80) kz cG rfl (by omega) fun f8 cH=>?_)
   refine qam (qaE cH (t:=60) (b:=dY) (o:=dZ + k * 8) (d:=63) kz (cs:=[.int .i64 aj,.int .i64 ak,.int .i64 al,.int .i64 am,.int .i64 ao,.int .i64 ap,.int .i64 ar,.slice aI au.length aJ]) (v:=.agg #[.int .i64 aj,.int .i64 ak,.int .i64 al,.int .i64 am,.int .i64 ao,.int .i64 ap,.int .i64 ar,.slice aI au.length aJ]) kz (AtF.move bf ac.step nilM qaZ).at_ fun f9 cI=>?_)
   refine qam (qaO ac cI (d:=8) (cs:=[.int .i64 0,.int .i64 0,.int .i64 0,.int .i64 0,.int .i64 0,.int .i64 0,.int .i64 0,.slice none 0 0]) kz fun ga gb gc eY eZ cJ bC cK=>?_)
   refine qah [4] [5] [(2,.p 0 0),(3,.p 1 0),(7,.v (.int .i64 ((k:Nat):Int))),(8,.p 2 0),(57,.v (.slice A9 l8.length aA)),(58,.v (.int .i64 ((l8.length:Nat):Int))),(59,.v (.int .i64 ((k:Nat):Int))),(63,.v (.agg #[.int .i64 aj,.int .i64 ak,.int .i64 al,.int .i64 am,.int .i64 ao,.int .i64 ap,.int .i64 ar,.slice aI au.length aJ]))] bC cK fun gd cL=>?_
   refine qam (qay bC cL (oi:=2) (cs:=[.int .i64 aj,.int .i64 ak,.int .i64 al,.int .i64 am,.int .i64 ao,.int .i64 ap,.int .i64 ar,.slice aI au.length aJ]) kz fun ge cM cN cO=>?_)
   refine qae (qab ?_)
   refine qaI 6 kz cN fun gg cP av cQ=>?_
   refine qaH [0,1,2] [(2,.p 0 0),(3,.p 1 0),(57,.v (.slice A9 l8.length aA)),(58,.v (.int .i64 ((l8.length:Nat):Int))),(59,.v (.int .i64 ((k:Nat):Int))),(64,.v (.agg #[.int .i64 aj,.int .i64 ak,.int .i64 al,.int .i64 am,.int .i64 ao,.int .i64 ap,.int .i64 ar,.slice aI au.length aJ])),(65,.v (.agg #[.int .i64 af,.slice ah ab.length ai,.bool aC,.slice bU aK.length bV,.slice bw aB.length bx])),(66,.v (.int .i64 ((k:Nat):Int)))] 3 (qaa (qac (qaa (qaa (qac (qaa (qac (qaa qaf)))))))) (fun _ h=>h.cells) cQ cO fun gh cR=>?_
   refine qaA (i:=3) kz (qai cR (f:=48) (vs:=[.agg #[.int .i64 af,.slice ah ab.length ai,.bool aC,.slice bU aK.length bV,.slice bw aB.length bx],.int .i64 ((k:Nat):Int)]) (d:=67) kz Tryd.call48 (sAt _ _ k _ _ (ht.move av.step nilM av.imm)) ?_)
   rintro e_ gi ⟨e9,rfl,cS,aw⟩
   have bi:=cS.move aw nilM (fun b o h_ hb_=>av.laid (G:=F) aw b o (.inl h_) (Nat.lt_of_lt_of_le hb_ aw.size))
   obtain ⟨d8,d9,ea,eb,ec,ee,ef,eg,eh,ei,ej,fa,fb,bj,ek,em,gj,gk⟩:=bi.open_
   rw [bj] at bi
   have eo:=ek.small
   have ep:=em.small
   rw [bj]
   refine ⟨_,rfl,fun gl cT=>?_⟩
   have ax:=av.next_nil aw
   have bk:=av.frN aw
   have cU:=TT.ofW bk ax
   refine ⟨fun _=>cU,?_⟩
   refine qaA (i:=4) kz (qai cT (f:=50) (vs:=[.agg #[.int .i64 aj,.int .i64 ak,.int .i64 al,.int .i64 am,.int .i64 ao,.int .i64 ap,.int .i64 ar,.slice aI au.length aJ],.agg #[.int .i64 d8,.slice ee d9.length ef,.bool ea,.slice eg eb.length eh,.slice ei ec.length ej]]) (d:=68) kz Tryd.call50 ( hu _ _ _ _ _ _ (bg.move ax.step nilM ax.imm) (by have h_:=qcT aF; rw [qdG] at hd; omega) bi) ?_)
   rintro e_ gm ⟨rfl,bD⟩
   refine ⟨_,rfl,fun gn cV=>?_⟩
   have ag:=ax.next_nil bD
   have bE:=ax.frN bD
   have bF:=TT.ofW (bk.trans bE) ag
   refine ⟨fun _=>bF,?_⟩
   refine qaH [5] [(2,.p 0 0),(3,.p 1 0),(57,.v (.slice A9 l8.length aA)),(58,.v (.int .i64 ((l8.length:Nat):Int))),(59,.v (.int .i64 ((k:Nat):Int))),(69,.v (.bool (!(Fld.usual (Fld.mk aj ak al am ao ap ar au) (Tree.at_ (Tree.mk af ab aC aK aB) k)))))] 0 (qaa (qac (qaa (qaa (qac (qaa (qac (qaa qaf)))))))) (fun _ h=>h.cells) bF cV fun gp bn=>?_
   refine qaG kz ?_ _
   refine qab ?_
   refine qau bn (b:=!(Fld.usual (Fld.mk aj ak al am ao ap ar au) (Tree.at_ (Tree.mk af ab aC aK aB) k))) kz (fun bo=>?_) (fun bo=>?_)
   ·
    refine qan [(4,.v (.bool false))] ag bn fun gq cW=>?_
    refine wp_ret ?_
    refine qaq ?_
    refine qal ?_
    refine qal ?_
    refine qaq ?_
    refine qal ?_
    refine qaq ?_
    refine qal ?_
    refine qaD cW ag.cells (v:=.bool false) kz ?_
    refine ⟨congrArg (fun b_=>Ending.returned (Value.bool b_)) ?_,ag.step⟩
    first
     | (rw [qb0 ‹_›]; simp only [and1]; done)
     | (rw [qbh ‹_› ‹_›]; exact qbf hz (by omega); done)
     | (rw [qbh ‹_› ‹_›]; exact qbc (k:=k) (by omega) (by omega) ‹_›; done)
     | (rw [qbw ‹_› ‹_› (by omega) ‹_›]; done)
     | (rw [qbE ‹_› ‹_› (by omega) ‹_›]; done)
     | (rw [qbF ‹_› ‹_› ‹_› ‹_› ‹_›]; done)
     | (rw [qbx ‹_› ‹_› ‹_› ‹_› ‹_› ‹_›,huu,qbn (by omega),Bool.true_and]; done)
     | (rw [qbm ‹_› ‹_› ‹_› ‹_› ‹_› ‹_›]; done)
     | (rw [qbx ‹_› ‹_› ‹_› ‹_› ‹_› ‹_›,huu,qfr aF (by simpa using bo),Bool.false_and]; done)
   refine wp_skip ?_
   refine qar ?_
   refine qab ?_
   refine qaw [0,1] kz ?_
   refine qah [0,1] [] [(2,.p 0 0),(3,.p 1 0),(57,.v (.slice A9 l8.length aA)),(58,.v (.int .i64 ((l8.length:Nat):Int))),(59,.v (.int .i64 (IntKind.i64.wrap (((k:Nat):Int) + 1))))] ag bn fun gt cX=>?_
   refine qae (qab ?_)
   obtain ⟨bG,cY,cZ⟩:=ag.cutB cX 2 [⟨dI,0,[.int .i64 k1,.int .i64 y2,.int .i64 y3,.int .i64 y4,.int .i64 y5,.int .i64 y6,.int .i64 y7,.slice A9 l8.length aA],true⟩,⟨dL,0,[.int .i64 af,.slice ah ab.length ai,.bool aC,.slice bU aK.length bV,.slice bw aB.length bx],true⟩] [(2,.p 0 0),(3,.p 1 0),(57,.v (.slice A9 l8.length aA)),(58,.v (.int .i64 ((l8.length:Nat):Int))),(59,.v (.int .i64 (IntKind.i64.wrap (((k:Nat):Int) + 1))))]
   have c5:IntKind.i64.wrap (((k:Nat):Int) + 1) = ((k + 1:Nat):Int):=qaM (by omega)
   rw [c5] at bG
   exact ⟨l8.length - (k + 1),by omega,k + 1,rfl,by omega,by rw [huu]; exact qfq aF (by simpa using bo),bG.pk,cY,((((((cD.trans cJ).trans cM).trans cP).trans bk).trans bE).trans cZ)⟩
  have fe:=of_decide_eq_false ba
  refine wp_exit ?_
  refine qaB ?_
  refine qaB ?_
  refine qaQ ?_
  refine qab ?_
  refine qad [0,1,2,3,4,5,6,7] kz ?_
  refine qah [0,1,2,3] [4,5,6,7] [(72,.v (.slice A9 l8.length aA)),(74,.v (.slice bw aB.length bx))] ac aZ fun gv c6=>?_
  refine qam (qai c6 (f:=53) (vs:=[.slice A9 l8.length aA,.slice bw aB.length bx]) (d:=75) kz Tryd.call53 (qeD _ _ l8 _ _ aB _ _ ⟨dG,(dH.move ac.step nilM ac.imm),(fun i_ x_ h_=>((eu i_ x_ h_).move ac.step nilM ac.imm))⟩ (fl.move ac.step nilM ac.imm)) ?_)
  rintro e_ gw ⟨gx,gy,rfl,da,bp⟩
  have ff:=da.move (Step.refl _ Nil) nilM (ac.laid (G:=F) bp)
  refine ⟨_,rfl,fun gz db=>?_⟩
  have bq:=ac.next_nil bp
  have fg:=ac.frN bp
  refine qah [5,6,7] [] [(4,.v (.bool ((((qag l8 aB).length:Nat):Int) == 0)))] bq db fun gA dc=>?_
  refine qae (qab ?_)
  refine wp_ret ?_
  refine qaq ?_
  refine qal ?_
  refine qaD dc bq.cells (v:=.bool ((((qag l8 aB).length:Nat):Int) == 0)) kz ?_
  refine ⟨congrArg (fun b_=>Ending.returned (Value.bool b_)) ?_,bq.step⟩
  first
   | (rw [qb0 ‹_›]; simp only [and1]; done)
   | (rw [qbh ‹_› ‹_›]; exact qbf hz (by omega); done)
   | (rw [qbh ‹_› ‹_›]; exact qbc (k:=k) (by omega) (by omega) ‹_›; done)
   | (rw [qbw ‹_› ‹_› (by omega) ‹_›]; done)
   | (rw [qbE ‹_› ‹_› (by omega) ‹_›]; done)
   | (rw [qbF ‹_› ‹_› ‹_› ‹_› ‹_›]; done)
   | (rw [qbx ‹_› ‹_› ‹_› ‹_› ‹_› ‹_›,huu,qbn (by omega),Bool.true_and]; done)
   | (rw [qbm ‹_› ‹_› ‹_› ‹_› ‹_› ‹_›]; done)
 have fh:k1 ≠ 10:=by simpa using aY
 refine wp_skip ?_
 refine qar ?_
 refine qab ?_
 refine qaI 13 kz aa fun gB fi bH de=>?_
 refine qaH [0,1,2,3,6,7,8,9] [(79,.v (.int .i64 af)),(81,.v (.int .i64 k1)),(85,.v (.int .i64 y6)),(87,.v (.int .i64 k1))] 6 (qaa qaf) (fun _ h=>h.cells) de aX fun gC df=>?_
 refine qaA (i:=4) kz (qai df (f:=72) (vs:=[.int .i64 k1]) (d:=82) kz Tryd.call72 (qhj k1 _) ?_)
 rintro e_ gD ⟨rfl,bI⟩
 refine ⟨_,rfl,fun gE dg=>?_⟩
 have bJ:=bH.next_nil bI
 have ay:=bH.frN bI
 have dh:=TT.ofW ay bJ
 refine ⟨fun _=>dh,?_⟩
 refine qaA (i:=5) kz (qai dg (f:=28) (vs:=[.int .i64 af,.int .i64 ((qbe k1:Nat):Int)]) (d:=83) kz Tryd.call28 (qdA af (qbe k1) (by first | decide | exact qbb _ | omega) _) ?_)
 rintro e_ gF ⟨di,dj,rfl,dl,dp⟩
 refine ⟨_,rfl,fun gG dq=>?_⟩
 obtain ⟨bt,aG⟩:=bJ.frFresh dp (brow di dj 5 (be (qbe k1) af)) (Nat.le_refl _) dl
 have dr:=TT.ofW (ay.trans aG) bt
 refine ⟨fun _=>dr,?_⟩
 refine qaA (i:=10) kz (qai dq (f:=72) (vs:=[.int .i64 k1]) (d:=88) kz Tryd.call72 (qhj k1 _) ?_)
 rintro e_ gH ⟨rfl,bK⟩
 refine ⟨_,rfl,fun gI dt=>?_⟩
 have bL:=bt.next_nil bK
 have bu:=bt.frN bK
 have du:=TT.ofW ((ay.trans aG).trans bu) bL
 refine ⟨fun _=>du,?_⟩
 refine qaA (i:=11) kz (qai dt (f:=28) (vs:=[.int .i64 y6,.int .i64 ((qbe k1:Nat):Int)]) (d:=89) kz Tryd.call28 (qdA y6 (qbe k1) (by first | decide | exact qbb _ | omega) _) ?_)
 rintro e_ gJ ⟨dv,dw,rfl,dx,dy⟩
 refine ⟨_,rfl,fun gK dA=>?_⟩
 obtain ⟨az,bM⟩:=bL.frFresh dy (brow dv dw 5 (be (qbe k1) y6)) (Nat.le_refl _) dx
 have dB:=TT.ofW (((ay.trans aG).trans bu).trans bM) az
 refine ⟨fun _=>dB,?_⟩
 refine qaA (i:=12) kz (qai dA (f:=31) (vs:=[.slice di ((be (qbe k1) af).length) dj,.slice dv ((be (qbe k1) y6).length) dw]) (d:=90) kz Tryd.call31 (qc8 _ _ _ _ (be (qbe k1) af) (be (qbe k1) y6) _ _ (qbC (az.own 0 _ rfl) (by first | omega | (rw [qa3]; decide) | (simp only [be_length]; exact Nat.le_trans (qbb _) (by decide)) | (have:=hroom; omega) | (have:=hmade; omega) | (simp only [List.length_append,List.length_nil]; omega)) (F:=fun _ _=>True) (fun _ _ _=>trivial)) (qbC (az.own 1 _ rfl) (by first | omega | (rw [qa3]; decide) | (simp only [be_length]; exact Nat.le_trans (qbb _) (by decide)) | (have:=hroom; omega) | (have:=hmade; omega) | (simp only [List.length_append,List.length_nil]; omega)) (F:=fun _ _=>True) (fun _ _ _=>trivial))) ?_)
 rintro e_ gL ⟨rfl,bN⟩
 refine ⟨_,rfl,fun gM dC=>?_⟩
 have aH:=az.next_nil bN
 have dD:=az.frN bN
 have dE:=TT.ofW ((((ay.trans aG).trans bu).trans bM).trans dD) aH
 refine ⟨fun _=>dE,?_⟩
 refine qaA (i:=13) kz (qa6 [4] aH.cells dC (env':=[(4,.v (.bool (decide (be (qbe k1) af = be (qbe k1) y6))))]) kz fun gN dF=>?_)
 refine ⟨fun h=>absurd rfl h,?_⟩
 refine qaG kz ?_ _
 refine qab ?_
 refine wp_ret ?_
 refine qaD dF aH.cells (v:=.bool (decide (be (qbe k1) af = be (qbe k1) y6))) kz ?_
 refine ⟨congrArg (fun b_=>Ending.returned (Value.bool b_)) ?_,aH.step⟩
 first
  | (rw [qb0 ‹_›]; simp only [and1]; done)
  | (rw [qbh ‹_› ‹_›]; exact qbf hz (by omega); done)
  | (rw [qbh ‹_› ‹_›]; exact qbc (k:=k) (by omega) (by omega) ‹_›; done)
  | (rw [qbw ‹_› ‹_› (by omega) ‹_›]; done)
  | (rw [qbE ‹_› ‹_› (by omega) ‹_›]; done)
  | (rw [qbF ‹_› ‹_› ‹_› ‹_› ‹_›]; done)
  | (rw [qbx ‹_› ‹_› ‹_› ‹_› ‹_› ‹_›,huu,qbn (by omega),Bool.true_and]; done)
  | (rw [qbm ‹_› ‹_› ‹_› ‹_› ‹_› ‹_›]; done)
theorem qfX:∀ d,qhm d
 | 0=>fun cf f ct t w F hf hd ht=>by
  obtain ⟨k,x1,x2,x3,x4,x5,x6,l,A,c,xs,rfl,_⟩:=hf.open_
  rw [qdG] at hd; omega
 | d + 1=>qfw (qfX d)
end Go.Proofs.YtajibgahdkllkaaDoorR.ME