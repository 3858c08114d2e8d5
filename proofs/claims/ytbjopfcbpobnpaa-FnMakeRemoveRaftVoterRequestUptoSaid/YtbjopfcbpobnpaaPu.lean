/- The reference's functions as plain Lean: what is written of messages. Own work. -/
import Derived.Test.YtbjopfcbpobnpaaDa
namespace Go.Proofs.Ytbjopfcbpobnpaa.ME
open Go
set_option linter.unusedVariables false
set_option linter.unusedSimpArgs false

/-- a number in groups of seven bits, the lowest one first -/
def uv (n : Nat) : Bs := if n < 128 then [UInt8.ofNat n] else UInt8.ofNat (n % 128 + 128) :: uv (n / 128)
termination_by n
decreasing_by omega

def whole (b : Bs) : Bs := b.take 32767
def things (l : List Tree) : List Tree := l.take 32767
def Tree.at_ (t : Tree) (i : Nat) : Tree := t.L.getD i .zero
def widthI (k : Int) : Nat := if k = 1 then 1 else if k = 2 ∨ k = 5 then 2 else if k = 3 then 4 else 8
def countedB (flex null : Bool) (n size : Nat) : Bs :=
  if flex && null then [0] else if flex then uv (n + 1) else if null then be size (-1) else be size n
def Fld.has : Fld → Int → Bool | .mk _ frm to _ _ _ _ _, v => decide (frm ≤ v) && (decide (to < 0) || decide (v ≤ to))
def Fld.nul : Fld → Int → Tree → Bool | .mk _ _ _ null _ _ _ _, v, .mk _ _ b _ _ => b && decide (null ≥ 0) && decide (v ≥ null)
def u32 (x : Int) : Int := x % 4294967296
def knownI (l : List Fld) : Int := l.foldl (fun n f => if f.tag ≥ 0 then (if u32 (u32 f.tag + 1) > n then u32 (u32 f.tag + 1) else n) else n) 0
def tagPos (out : List (Int × Bs)) (k : Int) : Nat := (out.takeWhile fun x => decide (x.1 < k)).length
def insTag (least : Int) (out : List (Int × Bs)) (t : Int × Bs) : List (Int × Bs) :=
  let i := tagPos out t.1
  if t.1 < least ∨ (i < out.length ∧ (out.getD i (0, [])).1 = t.1) then out else out.take i ++ t :: out.drop i
def unknownT (fields : List Fld) (l : List (Int × Bs)) : List (Int × Bs) := (l.take 32767).foldl (insTag (knownI fields)) []

/-- the sixteen octets of an id -/
def uuidB (s : Bs) : Bs := (s.take 16) ++ List.replicate (16 - s.length) 0

def Fld.depth : Fld → Nat
  | .mk _ _ _ _ _ _ _ sub => depths sub + 1
where depths : List Fld → Nat
  | [] => 0
  | f :: r => max f.depth (depths r)
abbrev depths := Fld.depth.depths

/-- whether a field is as it is by default -/
def Fld.usual : Fld → Tree → Bool
  | .mk kind _ _ null _ dfl _ sub, t =>
    if kind = 0 then decide (t.N % 2 = dfl)
    else if kind = 7 then (t.S.take 16).all (· == 0)
    else if kind = 8 ∨ kind = 9 then (if null ≥ 0 then t.null else decide (t.S.length = 0))
    else if kind = 11 then decide (t.L.length = 0)
    else if kind = 10 then usuals sub t 0 && decide ((unknownT sub t.U).length = 0)
    else decide (be (widthI kind) t.N = be (widthI kind) dfl)
where usuals : List Fld → Tree → Nat → Bool
  | [], _, _ => true
  | f :: r, t, i => f.usual (t.at_ i) && usuals r t (i + 1)
abbrev usuals := Fld.usual.usuals

/-- the unknown tags, written -/
def tagsB (l : List (Int × Bs)) : Bs := l.flatMap fun x => uv x.1.toNat ++ uv (whole x.2).length ++ whole x.2

/-- what is written of a value of a kind: 'p' writes a part -/
def valueB (p : Tree → Bs) (kind : Int) (null flex : Bool) (t : Tree) : Bs :=
  if kind = 0 then [by8 (t.N % 2)]
  else if kind = 7 then uuidB t.S
  else if kind = 8 then (let s := if null then [] else whole t.S; countedB flex null s.length 2 ++ s)
  else if kind = 9 then (let s := if null then [] else whole t.S; countedB flex null s.length 4 ++ s)
  else if kind = 10 then p t
  else be (widthI kind) t.N
/-- what is written of a field: 'p' writes a part of its fields -/
def fieldB (p : Tree → Bs) (f : Fld) (v : Int) (flex : Bool) (t : Tree) : Bs :=
  let null := f.nul v t
  if f.kind = 11 then
    let l := if null then [] else things t.L
    countedB flex null l.length 4 ++ l.flatMap fun x => valueB p f.of false flex x
  else if f.kind = 10 ∧ f.null ≥ 0 then (if null then be 1 (-1) else be 1 1 ++ p t)
  else valueB p f.kind null flex t

/-- the fields without tags: 'w' writes a field -/
def bodyB (w : Fld → Tree → Bs) : List Fld → Int → Tree → Nat → Bs
  | [], _, _, _ => []
  | f :: r, v, t, i => (if f.tag < 0 ∧ f.has v = true then w f (t.at_ i) else []) ++ bodyB w r v t (i + 1)
/-- the fields with one tag: how many, and what is written -/
def tagN (w : Fld → Tree → Bs) : List Fld → Nat → Tree → Nat → Nat
  | [], _, _, _ => 0
  | f :: r, k, t, i => (if f.tag = k ∧ f.usual (t.at_ i) = false then 1 else 0) + tagN w r k t (i + 1)
def tagB (w : Fld → Tree → Bs) : List Fld → Nat → Tree → Nat → Bs
  | [], _, _, _ => []
  | f :: r, k, t, i => (if f.tag = k ∧ f.usual (t.at_ i) = false then uv k ++ uv (w f (t.at_ i)).length ++ w f (t.at_ i) else []) ++ tagB w r k t (i + 1)
def tagsN (w : Fld → Tree → Bs) (fields : List Fld) (t : Tree) : Nat → Nat
  | 0 => 0
  | k + 1 => tagsN w fields t k + tagN w fields k t 0
def tagsK (w : Fld → Tree → Bs) (fields : List Fld) (t : Tree) : Nat → Bs
  | 0 => []
  | k + 1 => tagsK w fields t k ++ tagB w fields k t 0
/-- a part: 'w' writes a field -/
def partW (w : Fld → Tree → Bs) (fields : List Fld) (v : Int) (flex : Bool) (t : Tree) : Bs :=
  bodyB w fields v t 0 ++ (if flex then
    uv (tagsN w fields t (knownI fields).toNat + (unknownT fields t.U).length) ++ (tagsK w fields t (knownI fields).toNat ++ tagsB (unknownT fields t.U)) else [])
/-- what is written of a part whose depth is at most d -/
def partB : Nat → List Fld → Int → Bool → Tree → Bs
  | 0, fields, v, flex, t => partW (fun _ _ => []) fields v flex t
  | d + 1, fields, v, flex, t => partW (fun f t => fieldB (partB d f.sub v flex) f v flex t) fields v flex t
def fieldD (d : Nat) (f : Fld) (v : Int) (flex : Bool) (t : Tree) : Bs := fieldB (partB d f.sub v flex) f v flex t

/-- a whole message -/
def writeB (d : Nat) (l : List Fld) (x v : Int) (t : Tree) : Bs := partB d l v (decide (x ≥ 0) && decide (v ≥ x)) t
def keptB (d : Nat) (l : List Fld) (x v : Int) (t : Tree) : Bs := be 2 v ++ writeB d l x v t

def Tree.depth : Tree → Nat
  | .mk _ _ _ l _ => deep l + 1
where deep : List Tree → Nat
  | [] => 0
  | t :: r => max t.depth (deep r)
abbrev deep := Tree.depth.deep

/-- what a field says, as far as it can be written -/
def fitted0 (p : List Fld → Tree → Tree) (f : Fld) (null : Bool) (t : Tree) : Tree :=
  if f.kind = 8 ∨ f.kind = 9 then .mk 0 (whole t.S) null [] []
  else if f.kind = 10 then (match p f.sub t with | .mk n s _ l u => .mk n s null l u)
  else .mk t.N t.S false [] []
def Fld.elem : Fld → Fld | .mk _ frm to _ _ dfl of sub => .mk of frm to (-1) (-1) dfl of sub
def fittedW (p : List Fld → Tree → Tree) (v : Int) (f : Fld) (t : Tree) : Tree :=
  if f.kind = 11 then .mk 0 [] (f.nul v t || (decide (f.tag ≥ 0) && decide (t.L.length = 0))) ((things t.L).map fun x => fitted0 p f.elem (f.elem.nul v x) x) []
  else fitted0 p f (f.nul v t) t
def fitsW (w : Fld → Tree → Tree) : List Fld → Tree → Nat → List Tree
  | [], _, _ => []
  | f :: r, t, i => w f (t.at_ i) :: fitsW w r t (i + 1)
def fitW (w : Fld → Tree → Tree) (l : List Fld) (t : Tree) : Tree := .mk 0 [] false (fitsW w l t 0) ((unknownT l t.U).map fun x => (x.1, whole x.2))
def fitT (v : Int) : Nat → List Fld → Tree → Tree
  | 0, l, t => fitW (fun _ _ => .zero) l t
  | d + 1, l, t => fitW (fittedW (fitT v d) v) l t
/-- no list of lists -/
def Fld.plain : Fld → Prop
  | .mk _ _ _ _ _ _ of sub => of ≠ 11 ∧ plains sub
where plains : List Fld → Prop
  | [] => True
  | f :: r => f.plain ∧ plains r
abbrev plains := Fld.plain.plains

/-! octet by octet -/
theorem same_len {s t : Bs} (h : ((s.length : Nat) : Int) ≠ ((t.length : Nat) : Int)) : false = decide (s = t) := by
  symm; rw [decide_eq_false_iff_not]
  rintro rfl; exact h rfl
theorem same_el {s t : Bs} {k : Nat} (h : (((s.getD k 0).toNat : Nat) : Int) ≠ (((t.getD k 0).toNat : Nat) : Int)) : false = decide (s = t) := by
  symm; rw [decide_eq_false_iff_not]
  rintro rfl; exact h rfl
theorem take_step {s t : Bs} {k : Nat} (h : s.take k = t.take k) (hk : k < s.length) (hl : s.length = t.length) (he : (((s.getD k 0).toNat : Nat) : Int) = (((t.getD k 0).toNat : Nat) : Int)) : s.take (k + 1) = t.take (k + 1) := by
  have hk' : k < t.length := by omega
  rw [List.take_add_one, List.take_add_one, h, List.getElem?_eq_getElem hk, List.getElem?_eq_getElem hk']
  rw [List.getD_eq_getElem?_getD, List.getD_eq_getElem?_getD, List.getElem?_eq_getElem hk, List.getElem?_eq_getElem hk'] at he
  have : s[k] = t[k] := UInt8.toNat.inj (by exact_mod_cast he)
  rw [this]
theorem same_end {s t : Bs} {k : Nat} (h : s.take k = t.take k) (hk : s.length ≤ k) (hl : s.length = t.length) : true = decide (s = t) := by
  symm; rw [decide_eq_true_iff]
  rwa [List.take_of_length_le hk, List.take_of_length_le (by omega)] at h

end Go.Proofs.Ytbjopfcbpobnpaa.ME
