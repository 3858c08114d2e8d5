/- The texts of a claim, put together: the engine, the contracts, the law. Own work. -/
import Derived.Test.YtajibgahdkllkaaGreatWm0P1
import Derived.Test.YtajibgahdkllkaaGreatProg
namespace Go.Proofs.YtajibgahdkllkaaGreat.ME
open Go
open Go.RowKit
set_option linter.unusedVariables false
set_option linter.unusedSimpArgs false
set_option maxRecDepth 20000
def qav (w:World) (F:Nat → Nat → Prop) (D:DV):Prop:=(True) ∧ (True) ∧ (True) ∧ (True) ∧ (Slots w F 1 (D.f 4).A (D.f 4).c (D.f 4).l (fun i=>[.int .i32 (((D.f 4).f i).n)]) ∧ (D.f 4).l ≤ 1000000 ∧ ∀ i,i < (D.f 4).l → True) ∧ (Slots w F 1 (D.f 5).A (D.f 5).c (D.f 5).l (fun i=>[.int .i32 (((D.f 5).f i).n)]) ∧ (D.f 5).l ≤ 1000000 ∧ ∀ i,i < (D.f 5).l → True) ∧ (Slots w F 1 (D.f 6).A (D.f 6).c (D.f 6).l (fun i=>[.int .i32 (((D.f 6).f i).n)]) ∧ (D.f 6).l ≤ 1000000 ∧ ∀ i,i < (D.f 6).l → True) ∧ (Slots w F 1 (D.f 7).A (D.f 7).c (D.f 7).l (fun i=>[.int .i32 (((D.f 7).f i).n)]) ∧ (D.f 7).l ≤ 1000000 ∧ ∀ i,i < (D.f 7).l → True) ∧ (Slots w F 1 (D.f 8).A (D.f 8).c (D.f 8).l (fun i=>[.int .i32 (((D.f 8).f i).n)]) ∧ (D.f 8).l ≤ 1000000 ∧ ∀ i,i < (D.f 8).l → True) ∧ MapR w F D.m D.u ∧ D.u.length ≤ 1000000 ∧ (∀ x ∈ D.u,x.2.length < 4294967296) ∧ True
def qaC (w:World) (F:Nat → Nat → Prop) (D:DV):Prop:=(True) ∧ ((∀ ad,(D.f 1).A = some ad → ∃ b o,ad = ⟨b,o,none⟩ ∧ AtF w F b o [.string (D.f 1).s]) ∧ (D.f 1).s.size ≤ 1000000) ∧ ((D.f 2).o.length = 16) ∧ (True) ∧ (Slots w F 10 (D.f 4).A (D.f 4).c (D.f 4).l (fun i=>[.int .i16 ((((D.f 4).f i).f 0).n),.int .i32 ((((D.f 4).f i).f 1).n),.int .i32 ((((D.f 4).f i).f 2).n),.int .i32 ((((D.f 4).f i).f 3).n),.slice ((((D.f 4).f i).f 4).A) ((((D.f 4).f i).f 4).l) ((((D.f 4).f i).f 4).c),.slice ((((D.f 4).f i).f 5).A) ((((D.f 4).f i).f 5).l) ((((D.f 4).f i).f 5).c),.slice ((((D.f 4).f i).f 6).A) ((((D.f 4).f i).f 6).l) ((((D.f 4).f i).f 6).c),.slice ((((D.f 4).f i).f 7).A) ((((D.f 4).f i).f 7).l) ((((D.f 4).f i).f 7).c),.slice ((((D.f 4).f i).f 8).A) ((((D.f 4).f i).f 8).l) ((((D.f 4).f i).f 8).c),.map (((D.f 4).f i).m)]) ∧ (D.f 4).l ≤ 1000000 ∧ ∀ i,i < (D.f 4).l → qav w F ((D.f 4).f i)) ∧ (True) ∧ MapR w F D.m D.u ∧ D.u.length ≤ 1000000 ∧ (∀ x ∈ D.u,x.2.length < 4294967296) ∧ True
def qax (w:World) (F:Nat → Nat → Prop) (D:DV):Prop:=((D.f 0).s.size ≤ 1000000) ∧ (True) ∧ MapR w F D.m D.u ∧ D.u.length ≤ 1000000 ∧ (∀ x ∈ D.u,x.2.length < 4294967296) ∧ True
def qbe (w:World) (F:Nat → Nat → Prop) (D:DV):Prop:=(True) ∧ (Slots w F 22 (D.f 1).A (D.f 1).c (D.f 1).l (fun i=>[.int .i16 ((((D.f 1).f i).f 0).n),.pointer ((((D.f 1).f i).f 1).A),qac ((((D.f 1).f i).f 2).o.getD 0 0),qac ((((D.f 1).f i).f 2).o.getD 1 0),qac ((((D.f 1).f i).f 2).o.getD 2 0),qac ((((D.f 1).f i).f 2).o.getD 3 0),qac ((((D.f 1).f i).f 2).o.getD 4 0),qac ((((D.f 1).f i).f 2).o.getD 5 0),qac ((((D.f 1).f i).f 2).o.getD 6 0),qac ((((D.f 1).f i).f 2).o.getD 7 0),qac ((((D.f 1).f i).f 2).o.getD 8 0),qac ((((D.f 1).f i).f 2).o.getD 9 0),qac ((((D.f 1).f i).f 2).o.getD 10 0),qac ((((D.f 1).f i).f 2).o.getD 11 0),qac ((((D.f 1).f i).f 2).o.getD 12 0),qac ((((D.f 1).f i).f 2).o.getD 13 0),qac ((((D.f 1).f i).f 2).o.getD 14 0),qac ((((D.f 1).f i).f 2).o.getD 15 0),.bool ((((D.f 1).f i).f 3).b),.slice ((((D.f 1).f i).f 4).A) ((((D.f 1).f i).f 4).l) ((((D.f 1).f i).f 4).c),.int .i32 ((((D.f 1).f i).f 5).n),.map (((D.f 1).f i).m)]) ∧ (D.f 1).l ≤ 1000000 ∧ ∀ i,i < (D.f 1).l → qaC w F ((D.f 1).f i)) ∧ (∀ ad,(D.f 2).A = some ad → (∃ b o,ad = ⟨b,o,none⟩ ∧ AtF w F b o [.string (((D.f 2).f 0).s),.int .i32 (((D.f 2).f 1).n),.map ((D.f 2).m)]) ∧ qax w F (D.f 2)) ∧ MapR w F D.m D.u ∧ D.u.length ≤ 1000000 ∧ (∀ x ∈ D.u,x.2.length < 4294967296) ∧ True
def qaF (v:Int) (D:DV):Bs:=(be 4 ((D.f 0).n)) ++ (((if (decide (v ≥ 0)) = true then (uv ((D.f 1).l + 1)) else (be 4 (D.f 1).l)) ++ ((List.range (D.f 1).l).flatMap fun k5=>(be 2 ((((D.f 1).f k5).f 0).n)) ++ ((if (decide (v ≥ 0)) = true then (if (((D.f 1).f k5).f 1).A.isNone = true then uv 0 else uv ((((D.f 1).f k5).f 1).s.size + 1) ++ sb (((D.f 1).f k5).f 1).s) else (if (((D.f 1).f k5).f 1).A.isNone = true then be 2 (-1) else be 2 (((D.f 1).f k5).f 1).s.size ++ sb (((D.f 1).f k5).f 1).s)) ++ (((((D.f 1).f k5).f 2).o) ++ (([by8 (if (((D.f 1).f k5).f 3).b then 1 else 0)]) ++ (((if (decide (v ≥ 0)) = true then (uv ((((D.f 1).f k5).f 4).l + 1)) else (be 4 (((D.f 1).f k5).f 4).l)) ++ ((List.range (((D.f 1).f k5).f 4).l).flatMap fun aa=>(be 2 ((((((D.f 1).f k5).f 4).f aa).f 0).n)) ++ ((be 4 ((((((D.f 1).f k5).f 4).f aa).f 1).n)) ++ ((be 4 ((((((D.f 1).f k5).f 4).f aa).f 2).n)) ++ ((be 4 ((((((D.f 1).f k5).f 4).f aa).f 3).n)) ++ (((if (decide (v ≥ 0)) = true then (uv ((((((D.f 1).f k5).f 4).f aa).f 4).l + 1)) else (be 4 (((((D.f 1).f k5).f 4).f aa).f 4).l)) ++ ((List.range (((((D.f 1).f k5).f 4).f aa).f 4).l).flatMap fun ab=>be 4 (((((((D.f 1).f k5).f 4).f aa).f 4).f ab).n))) ++ (((if (decide (v ≥ 0)) = true then (uv ((((((D.f 1).f k5).f 4).f aa).f 5).l + 1)) else (be 4 (((((D.f 1).f k5).f 4).f aa).f 5).l)) ++ ((List.range (((((D.f 1).f k5).f 4).f aa).f 5).l).flatMap fun ac=>be 4 (((((((D.f 1).f k5).f 4).f aa).f 5).f ac).n))) ++ (((if (decide (v ≥ 0)) = true then (if ((((((D.f 1).f k5).f 4).f aa).f 6).A).isNone = true then uv 0 else uv ((((((D.f 1).f k5).f 4).f aa).f 6).l + 1)) else (if ((((((D.f 1).f k5).f 4).f aa).f 6).A).isNone = true then be 4 (-1) else be 4 (((((D.f 1).f k5).f 4).f aa).f 6).l)) ++ ((List.range (((((D.f 1).f k5).f 4).f aa).f 6).l).flatMap fun ae=>be 4 (((((((D.f 1).f k5).f 4).f aa).f 6).f ae).n))) ++ (((if (decide (v ≥ 0)) = true then (if ((((((D.f 1).f k5).f 4).f aa).f 7).A).isNone = true then uv 0 else uv ((((((D.f 1).f k5).f 4).f aa).f 7).l + 1)) else (if ((((((D.f 1).f k5).f 4).f aa).f 7).A).isNone = true then be 4 (-1) else be 4 (((((D.f 1).f k5).f 4).f aa).f 7).l)) ++ ((List.range (((((D.f 1).f k5).f 4).f aa).f 7).l).flatMap fun af=>be 4 (((((((D.f 1).f k5).f 4).f aa).f 7).f af).n))) ++ (((if (decide (v ≥ 0)) = true then (uv ((((((D.f 1).f k5).f 4).f aa).f 8).l + 1)) else (be 4 (((((D.f 1).f k5).f 4).f aa).f 8).l)) ++ ((List.range (((((D.f 1).f k5).f 4).f aa).f 8).l).flatMap fun ag=>be 4 (((((((D.f 1).f k5).f 4).f aa).f 8).f ag).n))) ++ (if (decide (v ≥ 0)) = true then (uv ((((D.f 1).f k5).f 4).f aa).u.length) ++ (qbM ((((D.f 1).f k5).f 4).f aa).u) else []))))))))))) ++ ((be 4 ((((D.f 1).f k5).f 5).n)) ++ (if (decide (v ≥ 0)) = true then (uv ((D.f 1).f k5).u.length) ++ (qbM ((D.f 1).f k5).u) else [])))))))) ++ ((if (((D.f 2).A).isNone) = true then (be 1 (-1)) else ((be 1 1) ++ ((if (decide (v ≥ 0)) = true then (uv (((D.f 2).f 0).s.size + 1) ++ sb ((D.f 2).f 0).s) else (be 2 ((D.f 2).f 0).s.size ++ sb ((D.f 2).f 0).s)) ++ ((be 4 (((D.f 2).f 1).n)) ++ (if (decide (v ≥ 0)) = true then (uv (D.f 2).u.length) ++ (qbM (D.f 2).u) else []))))) ++ ((if (decide (v ≥ 0)) = true then (uv D.u.length) ++ (qbM D.u) else []) ++ ([]))))
theorem qcw (v:Int) (D:DV) (b o:Nat) (A:Option Addr) (cp:Nat) (s:Bs) (w:World) (F:Nat → Nat → Prop) (hat:AtF w F b o [.int .i16 v,.int .i32 ((D.f 0).n),.slice ((D.f 1).A) ((D.f 1).l) ((D.f 1).c),.pointer ((D.f 2).A),.map D.m]) (hok:qbe w F D) (hF:∀ b o,F b o → ¬ Blk A b o) (ho:w.ownsRow 0 5 1 (.slice A s.length cp) s.length (bc s)) (hroom:s.length + (qaF v D).length + 16 ≤ 1099511627776) :
  Calls Tryz.prog 20 [.pointer (some ⟨b,o,none⟩),.slice A s.length cp].toArray w (qbu w 5 A (s ++ qaF v D)):=by
 unfold qbe at hok
 obtain ⟨g1,⟨g2,g2l,g2e⟩,g3,g4,g4l,g4x,_⟩:=hok
 refine qie (n:=392) Tryz.func20 rfl Tryz.ntmps20 kz rfl ho hroom ?_
 unfold qaF
 refine qid b o [.int .i16 v,.int .i32 ((D.f 0).n),.slice ((D.f 1).A) ((D.f 1).l) ((D.f 1).c),.pointer ((D.f 2).A),.map D.m] hat hF kz kz ?_
 refine qgJ 0 0 0 b o (by simp) rfl rfl rfl ?_
 refine qby (qaG (env':=[(0,.p 0 0)]) [0] (fun _ _ _=>by kernel_rfl)) ?_
 refine qby (qaG (env':=[(0,.p 0 0),(5,.v (.int .i16 v))]) [0,5] (fun _ _ _=>by kernel_rfl)) ?_
 refine qby (qaG (env':=[(0,.p 0 0),(5,.v (.int .i16 v))]) [0,5] (fun _ _ _=>by kernel_rfl)) ?_
 refine qby (qaG (env':=[(0,.p 0 0),(6,.v (.bool (decide (v ≥ 0))))]) [0,6] (fun _ _ _=>by kernel_rfl)) ?_
 refine qby (qaG (env':=[(0,.p 0 0),(6,.v (.bool (decide (v ≥ 0))))]) [0,6] (fun _ _ _=>by kernel_rfl)) ?_
 refine qd7 (e1:=[(0,.p 0 0),(6,.v (.bool (decide (v ≥ 0))))]) ?_ ?_
 ·
  refine qa1 (qaG (env':=[(0,.p 0 0),(6,.v (.bool (decide (v ≥ 0)))),(7,.v (.int .i32 ((D.f 0).n)))]) [0,6,7] (fun _ _ _=>by kernel_rfl)) ?_
  exact qbh (f:=33) (vs:=[.int .i32 ((D.f 0).n)]) 2 [0,6] (fun _ _ _ _ _ _=>by kernel_rfl) kz Tryz.call33 (fun A cp s w _ _ ho hr=>qbk A cp s ((D.f 0).n) w ho (by omega))
 refine qd7 (e1:=[(0,.p 0 0),(6,.v (.bool (decide (v ≥ 0))))]) ?_ ?_
 ·
  refine qa1 (qaG (env':=[(0,.p 0 0),(6,.v (.bool (decide (v ≥ 0)))),(8,.v (.slice ((D.f 1).A) ((D.f 1).l) ((D.f 1).c)))]) [0,6,8] (fun _ _ _=>by kernel_rfl)) ?_
  refine qbF (e1:=[(0,.p 0 0),(6,.v (.bool (decide (v ≥ 0)))),(8,.v (.slice ((D.f 1).A) ((D.f 1).l) ((D.f 1).c)))]) ?_ ?_
  ·
   refine qa1 (qaG (env':=[(0,.p 0 0),(6,.v (.bool (decide (v ≥ 0)))),(8,.v (.slice ((D.f 1).A) ((D.f 1).l) ((D.f 1).c))),(60,.v (.bool (decide (v ≥ 0))))]) [0,6,8,60] (fun _ _ _=>by kernel_rfl)) ?_
   refine qfn (b:=decide (v ≥ 0)) (fun _ _ _=>by kernel_rfl) (fun hb=>?_) (fun hb=>?_)
   ·
    exact qbh (f:=34) (vs:=[.int .i64 (((D.f 1).l:Nat):Int)]) 3 [0,6,8] (fun _ _ _ _ _ _=>by kernel_rfl) kz Tryz.call34 (fun A cp s w _ _ ho hr=>qbs (D.f 1).l g2l A cp s w ho hr)
   exact qbh (f:=35) (vs:=[.int .i64 (((D.f 1).l:Nat):Int)]) 3 [0,6,8] (fun _ _ _ _ _ _=>by kernel_rfl) kz Tryz.call35 (fun A cp s w _ _ ho hr=>qb8 (D.f 1).l A cp s w ho hr)
  refine qa1 (qaG (env':=[(71,.v (.int .i64 0)),(0,.p 0 0),(6,.v (.bool (decide (v ≥ 0)))),(8,.v (.slice ((D.f 1).A) ((D.f 1).l) ((D.f 1).c))),(70,.v (.int .i64 (((D.f 1).l:Nat):Int)))]) [71,0,6,8,70] (fun _ _ _=>by kernel_rfl)) ?_
  refine qec (e1:=[(0,.p 0 0),(6,.v (.bool (decide (v ≥ 0)))),(8,.v (.slice ((D.f 1).A) ((D.f 1).l) ((D.f 1).c))),(70,.v (.int .i64 (((D.f 1).l:Nat):Int)))]) [0,6] (fun _ _ _=>by kernel_rfl) ?_
  refine qd6 (len:=(D.f 1).l) (xs:=fun k5=>(be 2 ((((D.f 1).f k5).f 0).n)) ++ ((if (decide (v ≥ 0)) = true then (if (((D.f 1).f k5).f 1).A.isNone = true then uv 0 else uv ((((D.f 1).f k5).f 1).s.size + 1) ++ sb (((D.f 1).f k5).f 1).s) else (if (((D.f 1).f k5).f 1).A.isNone = true then be 2 (-1) else be 2 (((D.f 1).f k5).f 1).s.size ++ sb (((D.f 1).f k5).f 1).s)) ++ (((((D.f 1).f k5).f 2).o) ++ (([by8 (if (((D.f 1).f k5).f 3).b then 1 else 0)]) ++ (((if (decide (v ≥ 0)) = true then (uv ((((D.f 1).f k5).f 4).l + 1)) else (be 4 (((D.f 1).f k5).f 4).l)) ++ ((List.range (((D.f 1).f k5).f 4).l).flatMap fun aa=>(be 2 ((((((D.f 1).f k5).f 4).f aa).f 0).n)) ++ ((be 4 ((((((D.f 1).f k5).f 4).f aa).f 1).n)) ++ ((be 4 ((((((D.f 1).f k5).f 4).f aa).f 2).n)) ++ ((be 4 ((((((D.f 1).f k5).f 4).f aa).f 3).n)) ++ (((if (decide (v ≥ 0)) = true then (uv ((((((D.f 1).f k5).f 4).f aa).f 4).l + 1)) else (be 4 (((((D.f 1).f k5).f 4).f aa).f 4).l)) ++ ((List.range (((((D.f 1).f k5).f 4).f aa).f 4).l).flatMap fun ab=>be 4 (((((((D.f 1).f k5).f 4).f aa).f 4).f ab).n))) ++ (((if (decide (v ≥ 0)) = true then (uv ((((((D.f 1).f k5).f 4).f aa).f 5).l + 1)) else (be 4 (((((D.f 1).f k5).f 4).f aa).f 5).l)) ++ ((List.range (((((D.f 1).f k5).f 4).f aa).f 5).l).flatMap fun ac=>be 4 (((((((D.f 1).f k5).f 4).f aa).f 5).f ac).n))) ++ (((if (decide (v ≥ 0)) = true then (if ((((((D.f 1).f k5).f 4).f aa).f 6).A).isNone = true then uv 0 else uv ((((((D.f 1).f k5).f 4).f aa).f 6).l + 1)) else (if ((((((D.f 1).f k5).f 4).f aa).f 6).A).isNone = true then be 4 (-1) else be 4 (((((D.f 1).f k5).f 4).f aa).f 6).l)) ++ ((List.range (((((D.f 1).f k5).f 4).f aa).f 6).l).flatMap fun ae=>be 4 (((((((D.f 1).f k5).f 4).f aa).f 6).f ae).n))) ++ (((if (decide (v ≥ 0)) = true then (if ((((((D.f 1).f k5).f 4).f aa).f 7).A).isNone = true then uv 0 else uv ((((((D.f 1).f k5).f 4).f aa).f 7).l + 1)) else (if ((((((D.f 1).f k5).f 4).f aa).f 7).A).isNone = true then be 4 (-1) else be 4 (((((D.f 1).f k5).f 4).f aa).f 7).l)) ++ ((List.range (((((D.f 1).f k5).f 4).f aa).f 7).l).flatMap fun af=>be 4 (((((((D.f 1).f k5).f 4).f aa).f 7).f af).n))) ++ (((if (decide (v ≥ 0)) = true then (uv ((((((D.f 1).f k5).f 4).f aa).f 8).l + 1)) else (be 4 (((((D.f 1).f k5).f 4).f aa).f 8).l)) ++ ((List.range (((((D.f 1).f k5).f 4).f aa).f 8).l).flatMap fun ag=>be 4 (((((((D.f 1).f k5).f 4).f aa).f 8).f ag).n))) ++ (if (decide (v ≥ 0)) = true then (uv ((((D.f 1).f k5).f 4).f aa).u.length) ++ (qbM ((((D.f 1).f k5).f 4).f aa).u) else []))))))))))) ++ ((be 4 ((((D.f 1).f k5).f 5).n)) ++ (if (decide (v ≥ 0)) = true then (uv ((D.f 1).f k5).u.length) ++ (qbM ((D.f 1).f k5).u) else []))))))) 71 72 [0,6,8,70] (fun _ _ _ _=>by kernel_rfl) (fun _ _ _ _=>by kernel_rfl) (fun _ _ _ _ _=>by kernel_rfl) (fun _ _ _ _ _=>by kernel_rfl) kz (Nat.le_trans g2l (by decide)) (fun k5 hk5=>?_)
  refine qa1 (qaG (env':=[(0,.p 0 0),(6,.v (.bool (decide (v ≥ 0)))),(8,.v (.slice ((D.f 1).A) ((D.f 1).l) ((D.f 1).c))),(9,.v (.int .i64 ((k5:Nat):Int))),(70,.v (.int .i64 (((D.f 1).l:Nat):Int))),(71,.v (.int .i64 ((k5:Nat):Int)))]) [0,6,8,9,70,71] (fun _ _ _=>by kernel_rfl)) ?_
  refine qef (t:=52) (e:=76) (size:=22) (bytes:=80) (len:=(D.f 1).l) (j:=k5) (cs:=fun i=>[.int .i16 ((((D.f 1).f i).f 0).n),.pointer ((((D.f 1).f i).f 1).A),qac ((((D.f 1).f i).f 2).o.getD 0 0),qac ((((D.f 1).f i).f 2).o.getD 1 0),qac ((((D.f 1).f i).f 2).o.getD 2 0),qac ((((D.f 1).f i).f 2).o.getD 3 0),qac ((((D.f 1).f i).f 2).o.getD 4 0),qac ((((D.f 1).f i).f 2).o.getD 5 0),qac ((((D.f 1).f i).f 2).o.getD 6 0),qac ((((D.f 1).f i).f 2).o.getD 7 0),qac ((((D.f 1).f i).f 2).o.getD 8 0),qac ((((D.f 1).f i).f 2).o.getD 9 0),qac ((((D.f 1).f i).f 2).o.getD 10 0),qac ((((D.f 1).f i).f 2).o.getD 11 0),qac ((((D.f 1).f i).f 2).o.getD 12 0),qac ((((D.f 1).f i).f 2).o.getD 13 0),qac ((((D.f 1).f i).f 2).o.getD 14 0),qac ((((D.f 1).f i).f 2).o.getD 15 0),.bool ((((D.f 1).f i).f 3).b),.slice ((((D.f 1).f i).f 4).A) ((((D.f 1).f i).f 4).l) ((((D.f 1).f i).f 4).c),.int .i32 ((((D.f 1).f i).f 5).n),.map (((D.f 1).f i).m)]) (e1:=[(0,.p 0 0),(6,.v (.bool (decide (v ≥ 0)))),(8,.v (.slice ((D.f 1).A) ((D.f 1).l) ((D.f 1).c))),(10,.p 1 0),(70,.v (.int .i64 (((D.f 1).l:Nat):Int))),(71,.v (.int .i64 ((k5:Nat):Int)))]) 2 [0,6,8,10,70,71] (fun _ _ _ _ _=>by kernel_rfl) kz kz g2 hk5 hF kz kz kz fun bb1 oo1 hat1=>?_
  have g6:=g2e k5 hk5
  unfold qaC at g6
  obtain ⟨g7,⟨g8,g8l⟩,g9,aI,⟨aB,g11l,g11e⟩,aJ,aw,g13l,g13x,_⟩:=g6
  refine qbF (e1:=[(0,.p 0 0),(6,.v (.bool (decide (v ≥ 0)))),(8,.v (.slice ((D.f 1).A) ((D.f 1).l) ((D.f 1).c))),(10,.p 1 0),(70,.v (.int .i64 (((D.f 1).l:Nat):Int))),(71,.v (.int .i64 ((k5:Nat):Int)))]) ?_ ?_
  ·
   refine qa1 (qaG (env':=[(0,.p 0 0),(6,.v (.bool (decide (v ≥ 0)))),(8,.v (.slice ((D.f 1).A) ((D.f 1).l) ((D.f 1).c))),(10,.p 1 0),(11,.v (.int .i16 ((((D.f 1).f k5).f 0).n))),(70,.v (.int .i64 (((D.f 1).l:Nat):Int))),(71,.v (.int .i64 ((k5:Nat):Int)))]) [0,6,8,10,11,70,71] (fun _ _ _=>by kernel_rfl)) ?_
   exact qbh (f:=36) (vs:=[.int .i16 ((((D.f 1).f k5).f 0).n)]) 2 [0,6,8,10,70,71] (fun _ _ _ _ _ _=>by kernel_rfl) kz Tryz.call36 (fun A cp s w _ _ ho hr=>qc3 A cp s ((((D.f 1).f k5).f 0).n) w ho (by omega))
  refine qbF (e1:=[(0,.p 0 0),(6,.v (.bool (decide (v ≥ 0)))),(8,.v (.slice ((D.f 1).A) ((D.f 1).l) ((D.f 1).c))),(10,.p 1 0),(70,.v (.int .i64 (((D.f 1).l:Nat):Int))),(71,.v (.int .i64 ((k5:Nat):Int)))]) ?_ ?_
  ·
   refine qa1 (qaG (env':=[(0,.p 0 0),(6,.v (.bool (decide (v ≥ 0)))),(8,.v (.slice ((D.f 1).A) ((D.f 1).l) ((D.f 1).c))),(10,.p 1 0),(12,.v (.pointer ((((D.f 1).f k5).f 1).A))),(70,.v (.int .i64 (((D.f 1).l:Nat):Int))),(71,.v (.int .i64 ((k5:Nat):Int)))]) [0,6,8,10,12,70,71] (fun _ _ _=>by kernel_rfl)) ?_
   refine qa1 (qaG (env':=[(0,.p 0 0),(6,.v (.bool (decide (v ≥ 0)))),(8,.v (.slice ((D.f 1).A) ((D.f 1).l) ((D.f 1).c))),(10,.p 1 0),(12,.v (.pointer ((((D.f 1).f k5).f 1).A))),(70,.v (.int .i64 (((D.f 1).l:Nat):Int))),(71,.v (.int .i64 ((k5:Nat):Int))),(88,.v (.bool (decide (v ≥ 0))))]) [0,6,8,10,12,70,71,88] (fun _ _ _=>by kernel_rfl)) ?_
   refine qfn (b:=decide (v ≥ 0)) (fun _ _ _=>by kernel_rfl) (fun hb=>?_) (fun hb=>?_)
   ·
    exact qbh (f:=37) (vs:=[.pointer ((((D.f 1).f k5).f 1).A)]) 2 [0,6,8,10,70,71] (fun _ _ _ _ _ _=>by kernel_rfl) kz Tryz.call37 (fun A cp s w hs hA ho hr=>qcM (((D.f 1).f k5).f 1).A (((D.f 1).f k5).f 1).s A cp s w ho (Lo F _) (qfs hF hA) (fun ad h=>by obtain ⟨b',o',g1,g2⟩:=g8 ad h; exact ⟨b',o',g1,g2.move hs (lo_M hF) lo_F⟩) g8l hr)
   exact qbh (f:=38) (vs:=[.pointer ((((D.f 1).f k5).f 1).A)]) 2 [0,6,8,10,70,71] (fun _ _ _ _ _ _=>by kernel_rfl) kz Tryz.call38 (fun A cp s w hs hA ho hr=>qdF (((D.f 1).f k5).f 1).A (((D.f 1).f k5).f 1).s A cp s w ho (Lo F _) (qfs hF hA) (fun ad h=>by obtain ⟨b',o',g1,g2⟩:=g8 ad h; exact ⟨b',o',g1,g2.move hs (lo_M hF) lo_F⟩) g8l hr)
  refine qbF (e1:=[(0,.p 0 0),(6,.v (.bool (decide (v ≥ 0)))),(8,.v (.slice ((D.f 1).A) ((D.f 1).l) ((D.f 1).c))),(10,.p 1 0),(70,.v (.int .i64 (((D.f 1).l:Nat):Int))),(71,.v (.int .i64 ((k5:Nat):Int)))]) ?_ ?_
  ·
   refine qku (cs:=[qac ((((D.f 1).f k5).f 2).o.getD 0 0),qac ((((D.f 1).f k5).f 2).o.getD 1 0),qac ((((D.f 1).f k5).f 2).o.getD 2 0),qac ((((D.f 1).f k5).f 2).o.getD 3 0),qac ((((D.f 1).f k5).f 2).o.getD 4 0),qac ((((D.f 1).f k5).f 2).o.getD 5 0),qac ((((D.f 1).f k5).f 2).o.getD 6 0),qac ((((D.f 1).f k5).f 2).o.getD 7 0),qac ((((D.f 1).f k5).f 2).o.getD 8 0),qac ((((D.f 1).f k5).f 2).o.getD 9 0),qac ((((D.f 1).f k5).f 2).o.getD 10 0),qac ((((D.f 1).f k5).f 2).o.getD 11 0),qac ((((D.f 1).f k5).f 2).o.getD 12 0),qac ((((D.f 1).f k5).f 2).o.getD 13 0),qac ((((D.f 1).f k5).f 2).o.getD 14 0),qac ((((D.f 1).f k5).f 2).o.getD 15 0)]) (e2:=[(0,.p 0 0),(6,.v (.bool (decide (v ≥ 0)))),(8,.v (.slice ((D.f 1).A) ((D.f 1).l) ((D.f 1).c))),(10,.p 1 0),(13,.p 2 0),(70,.v (.int .i64 (((D.f 1).l:Nat):Int))),(71,.v (.int .i64 ((k5:Nat):Int)))]) 4 [0,6,8,10,13,70,71] (fun _ _ _ _=>by kernel_rfl) kz kz fun blk=>?_
   exact qbh (f:=39) (vs:=[.agg #[qac ((((D.f 1).f k5).f 2).o.getD 0 0),qac ((((D.f 1).f k5).f 2).o.getD 1 0),qac ((((D.f 1).f k5).f 2).o.getD 2 0),qac ((((D.f 1).f k5).f 2).o.getD 3 0),qac ((((D.f 1).f k5).f 2).o.getD 4 0),qac ((((D.f 1).f k5).f 2).o.getD 5 0),qac ((((D.f 1).f k5).f 2).o.getD 6 0),qac ((((D.f 1).f k5).f 2).o.getD 7 0),qac ((((D.f 1).f k5).f 2).o.getD 8 0),qac ((((D.f 1).f k5).f 2).o.getD 9 0),qac ((((D.f 1).f k5).f 2).o.getD 10 0),qac ((((D.f 1).f k5).f 2).o.getD 11 0),qac ((((D.f 1).f k5).f 2).o.getD 12 0),qac ((((D.f 1).f k5).f 2).o.getD 13 0),qac ((((D.f 1).f k5).f 2).o.getD 14 0),qac ((((D.f 1).f k5).f 2).o.getD 15 0)]]) 2 [0,6,8,10,70,71] (fun _ _ _ _ _ _=>by kernel_rfl) kz Tryz.call39 (fun A cp s w _ _ ho hr=>qgS (((D.f 1).f k5).f 2).o g9 A cp s w ho hr)
  refine qbF (e1:=[(0,.p 0 0),(6,.v (.bool (decide (v ≥ 0)))),(8,.v (.slice ((D.f 1).A) ((D.f 1).l) ((D.f 1).c))),(10,.p 1 0),(70,.v (.int .i64 (((D.f 1).l:Nat):Int))),(71,.v (.int .i64 ((k5:Nat):Int)))]) ?_ ?_
  ·
   refine qa1 (qaG (env':=[(0,.p 0 0),(6,.v (.bool (decide (v ≥ 0)))),(8,.v (.slice ((D.f 1).A) ((D.f 1).l) ((D.f 1).c))),(10,.p 1 0),(14,.v (.bool ((((D.f 1).f k5).f 3).b))),(70,.v (.int .i64 (((D.f 1).l:Nat):Int))),(71,.v (.int .i64 ((k5:Nat):Int)))]) [0,6,8,10,14,70,71] (fun _ _ _=>by kernel_rfl)) ?_
   exact qbh (f:=40) (vs:=[.bool ((((D.f 1).f k5).f 3).b)]) 2 [0,6,8,10,70,71] (fun _ _ _ _ _ _=>by kernel_rfl) kz Tryz.call40 (fun A cp s w _ _ ho hr=>qgN A cp s (((D.f 1).f k5).f 3).b w ho (by omega))
  refine qbF (e1:=[(0,.p 0 0),(6,.v (.bool (decide (v ≥ 0)))),(8,.v (.slice ((D.f 1).A) ((D.f 1).l) ((D.f 1).c))),(10,.p 1 0),(70,.v (.int .i64 (((D.f 1).l:Nat):Int))),(71,.v (.int .i64 ((k5:Nat):Int)))]) ?_ ?_
  ·
   refine qa1 (qaG (env':=[(0,.p 0 0),(6,.v (.bool (decide (v ≥ 0)))),(8,.v (.slice ((D.f 1).A) ((D.f 1).l) ((D.f 1).c))),(10,.p 1 0),(15,.v (.slice ((((D.f 1).f k5).f 4).A) ((((D.f 1).f k5).f 4).l) ((((D.f 1).f k5).f 4).c))),(70,.v (.int .i64 (((D.f 1).l:Nat):Int))),(71,.v (.int .i64 ((k5:Nat):Int)))]) [0,6,8,10,15,70,71] (fun _ _ _=>by kernel_rfl)) ?_
   refine qbF (e1:=[(0,.p 0 0),(6,.v (.bool (decide (v ≥ 0)))),(8,.v (.slice ((D.f 1).A) ((D.f 1).l) ((D.f 1).c))),(10,.p 1 0),(15,.v (.slice ((((D.f 1).f k5).f 4).A) ((((D.f 1).f k5).f 4).l) ((((D.f 1).f k5).f 4).c))),(70,.v (.int .i64 (((D.f 1).l:Nat):Int))),(71,.v (.int .i64 ((k5:Nat):Int)))]) ?_ ?_
   ·
    refine qa1 (qaG (env':=[(0,.p 0 0),(6,.v (.bool (decide (v ≥ 0)))),(8,.v (.slice ((D.f 1).A) ((D.f 1).l) ((D.f 1).c))),(10,.p 1 0),(15,.v (.slice ((((D.f 1).f k5).f 4).A) ((((D.f 1).f k5).f 4).l) ((((D.f 1).f k5).f 4).c))),(70,.v (.int .i64 (((D.f 1).l:Nat):Int))),(71,.v (.int .i64 ((k5:Nat):Int))),(113,.v (.bool (decide (v ≥ 0))))]) [0,6,8,10,15,70,71,113] (fun _ _ _=>by kernel_rfl)) ?_
    refine qfn (b:=decide (v ≥ 0)) (fun _ _ _=>by kernel_rfl) (fun hb=>?_) (fun hb=>?_)
    ·
     exact qbh (f:=34) (vs:=[.int .i64 (((((D.f 1).f k5).f 4).l:Nat):Int)]) 3 [0,6,8,10,15,70,71] (fun _ _ _ _ _ _=>by kernel_rfl) kz Tryz.call34 (fun A cp s w _ _ ho hr=>qbs (((D.f 1).f k5).f 4).l g11l A cp s w ho hr)
    exact qbh (f:=35) (vs:=[.int .i64 (((((D.f 1).f k5).f 4).l:Nat):Int)]) 3 [0,6,8,10,15,70,71] (fun _ _ _ _ _ _=>by kernel_rfl) kz Tryz.call35 (fun A cp s w _ _ ho hr=>qb8 (((D.f 1).f k5).f 4).l A cp s w ho hr)
   refine qa1 (qaG (env':=[(124,.v (.int .i64 0)),(0,.p 0 0),(6,.v (.bool (decide (v ≥ 0)))),(8,.v (.slice ((D.f 1).A) ((D.f 1).l) ((D.f 1).c))),(10,.p 1 0),(15,.v (.slice ((((D.f 1).f k5).f 4).A) ((((D.f 1).f k5).f 4).l) ((((D.f 1).f k5).f 4).c))),(70,.v (.int .i64 (((D.f 1).l:Nat):Int))),(71,.v (.int .i64 ((k5:Nat):Int))),(123,.v (.int .i64 (((((D.f 1).f k5).f 4).l:Nat):Int)))]) [124,0,6,8,10,15,70,71,123] (fun _ _ _=>by kernel_rfl)) ?_
   refine qec (e1:=[(0,.p 0 0),(6,.v (.bool (decide (v ≥ 0)))),(8,.v (.slice ((D.f 1).A) ((D.f 1).l) ((D.f 1).c))),(10,.p 1 0),(15,.v (.slice ((((D.f 1).f k5).f 4).A) ((((D.f 1).f k5).f 4).l) ((((D.f 1).f k5).f 4).c))),(70,.v (.int .i64 (((D.f 1).l:Nat):Int))),(71,.v (.int .i64 ((k5:Nat):Int))),(123,.v (.int .i64 (((((D.f 1).f k5).f 4).l:Nat):Int)))]) [0,6,8,10,70,71] (fun _ _ _=>by kernel_rfl) ?_
   refine qd6 (len:=(((D.f 1).f k5).f 4).l) (xs:=fun aa=>(be 2 ((((((D.f 1).f k5).f 4).f aa).f 0).n)) ++ ((be 4 ((((((D.f 1).f k5).f 4).f aa).f 1).n)) ++ ((be 4 ((((((D.f 1).f k5).f 4).f aa).f 2).n)) ++ ((be 4 ((((((D.f 1).f k5).f 4).f aa).f 3).n)) ++ (((if (decide (v ≥ 0)) = true then (uv ((((((D.f 1).f k5).f 4).f aa).f 4).l + 1)) else (be 4 (((((D.f 1).f k5).f 4).f aa).f 4).l)) ++ ((List.range (((((D.f 1).f k5).f 4).f aa).f 4).l).flatMap fun ab=>be 4 (((((((D.f 1).f k5).f 4).f aa).f 4).f ab).n))) ++ (((if (decide (v ≥ 0)) = true then (uv ((((((D.f 1).f k5).f 4).f aa).f 5).l + 1)) else (be 4 (((((D.f 1).f k5).f 4).f aa).f 5).l)) ++ ((List.range (((((D.f 1).f k5).f 4).f aa).f 5).l).flatMap fun ac=>be 4 (((((((D.f 1).f k5).f 4).f aa).f 5).f ac).n))) ++ (((if (decide (v ≥ 0)) = true then (if ((((((D.f 1).f k5).f 4).f aa).f 6).A).isNone = true then uv 0 else uv ((((((D.f 1).f k5).f 4).f aa).f 6).l + 1)) else (if ((((((D.f 1).f k5).f 4).f aa).f 6).A).isNone = true then be 4 (-1) else be 4 (((((D.f 1).f k5).f 4).f aa).f 6).l)) ++ ((List.range (((((D.f 1).f k5).f 4).f aa).f 6).l).flatMap fun ae=>be 4 (((((((D.f 1).f k5).f 4).f aa).f 6).f ae).n))) ++ (((if (decide (v ≥ 0)) = true then (if ((((((D.f 1).f k5).f 4).f aa).f 7).A).isNone = true then uv 0 else uv ((((((D.f 1).f k5).f 4).f aa).f 7).l + 1)) else (if ((((((D.f 1).f k5).f 4).f aa).f 7).A).isNone = true then be 4 (-1) else be 4 (((((D.f 1).f k5).f 4).f aa).f 7).l)) ++ ((List.range (((((D.f 1).f k5).f 4).f aa).f 7).l).flatMap fun af=>be 4 (((((((D.f 1).f k5).f 4).f aa).f 7).f af).n))) ++ (((if (decide (v ≥ 0)) = true then (uv ((((((D.f 1).f k5).f 4).f aa).f 8).l + 1)) else (be 4 (((((D.f 1).f k5).f 4).f aa).f 8).l)) ++ ((List.range (((((D.f 1).f k5).f 4).f aa).f 8).l).flatMap fun ag=>be 4 (((((((D.f 1).f k5).f 4).f aa).f 8).f ag).n))) ++ (if (decide (v ≥ 0)) = true then (uv ((((D.f 1).f k5).f 4).f aa).u.length) ++ (qbM ((((D.f 1).f k5).f 4).f aa).u) else [])))))))))) 124 125 [0,6,8,10,15,70,71,123] (fun _ _ _ _=>by kernel_rfl) (fun _ _ _ _=>by kernel_rfl) (fun _ _ _ _ _=>by kernel_rfl) (fun _ _ _ _ _=>by kernel_rfl) kz (Nat.le_trans g11l (by decide)) (fun aa ai=>?_)
   refine qa1 (qaG (env':=[(0,.p 0 0),(6,.v (.bool (decide (v ≥ 0)))),(8,.v (.slice ((D.f 1).A) ((D.f 1).l) ((D.f 1).c))),(10,.p 1 0),(15,.v (.slice ((((D.f 1).f k5).f 4).A) ((((D.f 1).f k5).f 4).l) ((((D.f 1).f k5).f 4).c))),(16,.v (.int .i64 ((aa:Nat):Int))),(70,.v (.int .i64 (((D.f 1).l:Nat):Int))),(71,.v (.int .i64 ((k5:Nat):Int))),(123,.v (.int .i64 (((((D.f 1).f k5).f 4).l:Nat):Int))),(124,.v (.int .i64 ((aa:Nat):Int)))]) [0,6,8,10,15,16,70,71,123,124] (fun _ _ _=>by kernel_rfl)) ?_
   refine qef (t:=74) (e:=90) (size:=10) (bytes:=144) (len:=(((D.f 1).f k5).f 4).l) (j:=aa) (cs:=fun i=>[.int .i16 ((((((D.f 1).f k5).f 4).f i).f 0).n),.int .i32 ((((((D.f 1).f k5).f 4).f i).f 1).n),.int .i32 ((((((D.f 1).f k5).f 4).f i).f 2).n),.int .i32 ((((((D.f 1).f k5).f 4).f i).f 3).n),.slice ((((((D.f 1).f k5).f 4).f i).f 4).A) ((((((D.f 1).f k5).f 4).f i).f 4).l) ((((((D.f 1).f k5).f 4).f i).f 4).c),.slice ((((((D.f 1).f k5).f 4).f i).f 5).A) ((((((D.f 1).f k5).f 4).f i).f 5).l) ((((((D.f 1).f k5).f 4).f i).f 5).c),.slice ((((((D.f 1).f k5).f 4).f i).f 6).A) ((((((D.f 1).f k5).f 4).f i).f 6).l) ((((((D.f 1).f k5).f 4).f i).f 6).c),.slice ((((((D.f 1).f k5).f 4).f i).f 7).A) ((((((D.f 1).f k5).f 4).f i).f 7).l) ((((((D.f 1).f k5).f 4).f i).f 7).c),.slice ((((((D.f 1).f k5).f 4).f i).f 8).A) ((((((D.f 1).f k5).f 4).f i).f 8).l) ((((((D.f 1).f k5).f 4).f i).f 8).c),.map (((((D.f 1).f k5).f 4).f i).m)]) (e1:=[(0,.p 0 0),(6,.v (.bool (decide (v ≥ 0)))),(8,.v (.slice ((D.f 1).A) ((D.f 1).l) ((D.f 1).c))),(10,.p 1 0),(15,.v (.slice ((((D.f 1).f k5).f 4).A) ((((D.f 1).f k5).f 4).l) ((((D.f 1).f k5).f 4).c))),(17,.p 2 0),(70,.v (.int .i64 (((D.f 1).l:Nat):Int))),(71,.v (.int .i64 ((k5:Nat):Int))),(123,.v (.int .i64 (((((D.f 1).f k5).f 4).l:Nat):Int))),(124,.v (.int .i64 ((aa:Nat):Int)))]) 2 [0,6,8,10,15,17,70,71,123,124] (fun _ _ _ _ _=>by kernel_rfl) kz kz aB ai hF kz kz kz fun bb2 oo2 hat2=>?_
   have ax:=g11e aa ai
   unfold qav at ax
   obtain ⟨aK,aL,aM,aN,⟨aC,g20l,g20e⟩,⟨aD,g21l,g21e⟩,⟨aE,g22l,g22e⟩,⟨aF,g23l,g23e⟩,⟨aG,g24l,g24e⟩,ay,g25l,g25x,_⟩:=ax
   refine qbF (e1:=[(0,.p 0 0),(6,.v (.bool (decide (v ≥ 0)))),(8,.v (.slice ((D.f 1).A) ((D.f 1).l) ((D.f 1).c))),(10,.p 1 0),(15,.v (.slice ((((D.f 1).f k5).f 4).A) ((((D.f 1).f k5).f 4).l) ((((D.f 1).f k5).f 4).c))),(17,.p 2 0),(70,.v (.int .i64 (((D.f 1).l:Nat):Int))),(71,.v (.int .i64 ((k5:Nat):Int))),(123,.v (.int .i64 (((((D.f 1).f k5).f 4).l:Nat):Int))),(124,.v (.int .i64 ((aa:Nat):Int)))]) ?_ ?_
   ·
    refine qa1 (qaG (env':=[(0,.p 0 0),(6,.v (.bool (decide (v ≥ 0)))),(8,.v (.slice ((D.f 1).A) ((D.f 1).l) ((D.f 1).c))),(10,.p 1 0),(15,.v (.slice ((((D.f 1).f k5).f 4).A) ((((D.f 1).f k5).f 4).l) ((((D.f 1).f k5).f 4).c))),(17,.p 2 0),(18,.v (.int .i16 ((((((D.f 1).f k5).f 4).f aa).f 0).n))),(70,.v (.int .i64 (((D.f 1).l:Nat):Int))),(71,.v (.int .i64 ((k5:Nat):Int))),(123,.v (.int .i64 (((((D.f 1).f k5).f 4).l:Nat):Int))),(124,.v (.int .i64 ((aa:Nat):Int)))]) [0,6,8,10,15,17,18,70,71,123,124] (fun _ _ _=>by kernel_rfl)) ?_
    exact qbh (f:=36) (vs:=[.int .i16 ((((((D.f 1).f k5).f 4).f aa).f 0).n)]) 2 [0,6,8,10,15,17,70,71,123,124] (fun _ _ _ _ _ _=>by kernel_rfl) kz Tryz.call36 (fun A cp s w _ _ ho hr=>qc3 A cp s ((((((D.f 1).f k5).f 4).f aa).f 0).n) w ho (by omega))
   refine qbF (e1:=[(0,.p 0 0),(6,.v (.bool (decide (v ≥ 0)))),(8,.v (.slice ((D.f 1).A) ((D.f 1).l) ((D.f 1).c))),(10,.p 1 0),(15,.v (.slice ((((D.f 1).f k5).f 4).A) ((((D.f 1).f k5).f 4).l) ((((D.f 1).f k5).f 4).c))),(17,.p 2 0),(70,.v (.int .i64 (((D.f 1).l:Nat):Int))),(71,.v (.int .i64 ((k5:Nat):Int))),(123,.v (.int .i64 (((((D.f 1).f k5).f 4).l:Nat):Int))),(124,.v (.int .i64 ((aa:Nat):Int)))]) ?_ ?_
   ·
    refine qa1 (qaG (env':=[(0,.p 0 0),(6,.v (.bool (decide (v ≥ 0)))),(8,.v (.slice ((D.f 1).A) ((D.f 1).l) ((D.f 1).c))),(10,.p 1 0),(15,.v (.slice ((((D.f 1).f k5).f 4).A) ((((D.f 1).f k5).f 4).l) ((((D.f 1).f k5).f 4).c))),(17,.p 2 0),(19,.v (.int .i32 ((((((D.f 1).f k5).f 4).f aa).f 1).n))),(70,.v (.int .i64 (((D.f 1).l:Nat):Int))),(71,.v (.int .i64 ((k5:Nat):Int))),(123,.v (.int .i64 (((((D.f 1).f k5).f 4).l:Nat):Int))),(124,.v (.int .i64 ((aa:Nat):Int)))]) [0,6,8,10,15,17,19,70,71,123,124] (fun _ _ _=>by kernel_rfl)) ?_
    exact qbh (f:=33) (vs:=[.int .i32 ((((((D.f 1).f k5).f 4).f aa).f 1).n)]) 2 [0,6,8,10,15,17,70,71,123,124] (fun _ _ _ _ _ _=>by kernel_rfl) kz Tryz.call33 (fun A cp s w _ _ ho hr=>qbk A cp s ((((((D.f 1).f k5).f 4).f aa).f 1).n) w ho (by omega))
   refine qbF (e1:=[(0,.p 0 0),(6,.v (.bool (decide (v ≥ 0)))),(8,.v (.slice ((D.f 1).A) ((D.f 1).l) ((D.f 1).c))),(10,.p 1 0),(15,.v (.slice ((((D.f 1).f k5).f 4).A) ((((D.f 1).f k5).f 4).l) ((((D.f 1).f k5).f 4).c))),(17,.p 2 0),(70,.v (.int .i64 (((D.f 1).l:Nat):Int))),(71,.v (.int .i64 ((k5:Nat):Int))),(123,.v (.int .i64 (((((D.f 1).f k5).f 4).l:Nat):Int))),(124,.v (.int .i64 ((aa:Nat):Int)))]) ?_ ?_
   ·
    refine qa1 (qaG (env':=[(0,.p 0 0),(6,.v (.bool (decide (v ≥ 0)))),(8,.v (.slice ((D.f 1).A) ((D.f 1).l) ((D.f 1).c))),(10,.p 1 0),(15,.v (.slice ((((D.f 1).f k5).f 4).A) ((((D.f 1).f k5).f 4).l) ((((D.f 1).f k5).f 4).c))),(17,.p 2 0),(20,.v (.int .i32 ((((((D.f 1).f k5).f 4).f aa).f 2).n))),(70,.v (.int .i64 (((D.f 1).l:Nat):Int))),(71,.v (.int .i64 ((k5:Nat):Int))),(123,.v (.int .i64 (((((D.f 1).f k5).f 4).l:Nat):Int))),(124,.v (.int .i64 ((aa:Nat):Int)))]) [0,6,8,10,15,17,20,70,71,123,124] (fun _ _ _=>by kernel_rfl)) ?_
    exact qbh (f:=33) (vs:=[.int .i32 ((((((D.f 1).f k5).f 4).f aa).f 2).n)]) 2 [0,6,8,10,15,17,70,71,123,124] (fun _ _ _ _ _ _=>by kernel_rfl) kz Tryz.call33 (fun A cp s w _ _ ho hr=>qbk A cp s ((((((D.f 1).f k5).f 4).f aa).f 2).n) w ho (by omega))
   refine qbF (e1:=[(0,.p 0 0),(6,.v (.bool (decide (v ≥ 0)))),(8,.v (.slice ((D.f 1).A) ((D.f 1).l) ((D.f 1).c))),(10,.p 1 0),(15,.v (.slice ((((D.f 1).f k5).f 4).A) ((((D.f 1).f k5).f 4).l) ((((D.f 1).f k5).f 4).c))),(17,.p 2 0),(70,.v (.int .i64 (((D.f 1).l:Nat):Int))),(71,.v (.int .i64 ((k5:Nat):Int))),(123,.v (.int .i64 (((((D.f 1).f k5).f 4).l:Nat):Int))),(124,.v (.int .i64 ((aa:Nat):Int)))]) ?_ ?_
   ·
    refine qa1 (qaG (env':=[(0,.p 0 0),(6,.v (.bool (decide (v ≥ 0)))),(8,.v (.slice ((D.f 1).A) ((D.f 1).l) ((D.f 1).c))),(10,.p 1 0),(15,.v (.slice ((((D.f 1).f k5).f 4).A) ((((D.f 1).f k5).f 4).l) ((((D.f 1).f k5).f 4).c))),(17,.p 2 0),(21,.v (.int .i32 ((((((D.f 1).f k5).f 4).f aa).f 3).n))),(70,.v (.int .i64 (((D.f 1).l:Nat):Int))),(71,.v (.int .i64 ((k5:Nat):Int))),(123,.v (.int .i64 (((((D.f 1).f k5).f 4).l:Nat):Int))),(124,.v (.int .i64 ((aa:Nat):Int)))]) [0,6,8,10,15,17,21,70,71,123,124] (fun _ _ _=>by kernel_rfl)) ?_
    exact qbh (f:=33) (vs:=[.int .i32 ((((((D.f 1).f k5).f 4).f aa).f 3).n)]) 2 [0,6,8,10,15,17,70,71,123,124] (fun _ _ _ _ _ _=>by kernel_rfl) kz Tryz.call33 (fun A cp s w _ _ ho hr=>qbk A cp s ((((((D.f 1).f k5).f 4).f aa).f 3).n) w ho (by omega))
   refine qbF (e1:=[(0,.p 0 0),(6,.v (.bool (decide (v ≥ 0)))),(8,.v (.slice ((D.f 1).A) ((D.f 1).l) ((D.f 1).c))),(10,.p 1 0),(15,.v (.slice ((((D.f 1).f k5).f 4).A) ((((D.f 1).f k5).f 4).l) ((((D.f 1).f k5).f 4).c))),(17,.p 2 0),(70,.v (.int .i64 (((D.f 1).l:Nat):Int))),(71,.v (.int .i64 ((k5:Nat):Int))),(123,.v (.int .i64 (((((D.f 1).f k5).f 4).l:Nat):Int))),(124,.v (.int .i64 ((aa:Nat):Int)))]) ?_ ?_
   ·
    refine qa1 (qaG (env':=[(0,.p 0 0),(6,.v (.bool (decide (v ≥ 0)))),(8,.v (.slice ((D.f 1).A) ((D.f 1).l) ((D.f 1).c))),(10,.p 1 0),(15,.v (.slice ((((D.f 1).f k5).f 4).A) ((((D.f 1).f k5).f 4).l) ((((D.f 1).f k5).f 4).c))),(17,.p 2 0),(22,.v (.slice ((((((D.f 1).f k5).f 4).f aa).f 4).A) ((((((D.f 1).f k5).f 4).f aa).f 4).l) ((((((D.f 1).f k5).f 4).f aa).f 4).c))),(70,.v (.int .i64 (((D.f 1).l:Nat):Int))),(71,.v (.int .i64 ((k5:Nat):Int))),(123,.v (.int .i64 (((((D.f 1).f k5).f 4).l:Nat):Int))),(124,.v (.int .i64 ((aa:Nat):Int)))]) [0,6,8,10,15,17,22,70,71,123,124] (fun _ _ _=>by kernel_rfl)) ?_
    refine qbF (e1:=[(0,.p 0 0),(6,.v (.bool (decide (v ≥ 0)))),(8,.v (.slice ((D.f 1).A) ((D.f 1).l) ((D.f 1).c))),(10,.p 1 0),(15,.v (.slice ((((D.f 1).f k5).f 4).A) ((((D.f 1).f k5).f 4).l) ((((D.f 1).f k5).f 4).c))),(17,.p 2 0),(22,.v (.slice ((((((D.f 1).f k5).f 4).f aa).f 4).A) ((((((D.f 1).f k5).f 4).f aa).f 4).l) ((((((D.f 1).f k5).f 4).f aa).f 4).c))),(70,.v (.int .i64 (((D.f 1).l:Nat):Int))),(71,.v (.int .i64 ((k5:Nat):Int))),(123,.v (.int .i64 (((((D.f 1).f k5).f 4).l:Nat):Int))),(124,.v (.int .i64 ((aa:Nat):Int)))]) ?_ ?_
    ·
     refine qa1 (qaG (env':=[(0,.p 0 0),(6,.v (.bool (decide (v ≥ 0)))),(8,.v (.slice ((D.f 1).A) ((D.f 1).l) ((D.f 1).c))),(10,.p 1 0),(15,.v (.slice ((((D.f 1).f k5).f 4).A) ((((D.f 1).f k5).f 4).l) ((((D.f 1).f k5).f 4).c))),(17,.p 2 0),(22,.v (.slice ((((((D.f 1).f k5).f 4).f aa).f 4).A) ((((((D.f 1).f k5).f 4).f aa).f 4).l) ((((((D.f 1).f k5).f 4).f aa).f 4).c))),(70,.v (.int .i64 (((D.f 1).l:Nat):Int))),(71,.v (.int .i64 ((k5:Nat):Int))),(123,.v (.int .i64 (((((D.f 1).f k5).f 4).l:Nat):Int))),(124,.v (.int .i64 ((aa:Nat):Int))),(162,.v (.bool (decide (v ≥ 0))))]) [0,6,8,10,15,17,22,70,71,123,124,162] (fun _ _ _=>by kernel_rfl)) ?_
     refine qfn (b:=decide (v ≥ 0)) (fun _ _ _=>by kernel_rfl) (fun hb=>?_) (fun hb=>?_)
     ·
      exact qbh (f:=34) (vs:=[.int .i64 (((((((D.f 1).f k5).f 4).f aa).f 4).l:Nat):Int)]) 3 [0,6,8,10,15,17,22,70,71,123,124] (fun _ _ _ _ _ _=>by kernel_rfl) kz Tryz.call34 (fun A cp s w _ _ ho hr=>qbs (((((D.f 1).f k5).f 4).f aa).f 4).l g20l A cp s w ho hr)
     exact qbh (f:=35) (vs:=[.int .i64 (((((((D.f 1).f k5).f 4).f aa).f 4).l:Nat):Int)]) 3 [0,6,8,10,15,17,22,70,71,123,124] (fun _ _ _ _ _ _=>by kernel_rfl) kz Tryz.call35 (fun A cp s w _ _ ho hr=>qb8 (((((D.f 1).f k5).f 4).f aa).f 4).l A cp s w ho hr)
    refine qa1 (qaG (env':=[(173,.v (.int .i64 0)),(0,.p 0 0),(6,.v (.bool (decide (v ≥ 0)))),(8,.v (.slice ((D.f 1).A) ((D.f 1).l) ((D.f 1).c))),(10,.p 1 0),(15,.v (.slice ((((D.f 1).f k5).f 4).A) ((((D.f 1).f k5).f 4).l) ((((D.f 1).f k5).f 4).c))),(17,.p 2 0),(22,.v (.slice ((((((D.f 1).f k5).f 4).f aa).f 4).A) ((((((D.f 1).f k5).f 4).f aa).f 4).l) ((((((D.f 1).f k5).f 4).f aa).f 4).c))),(70,.v (.int .i64 (((D.f 1).l:Nat):Int))),(71,.v (.int .i64 ((k5:Nat):Int))),(123,.v (.int .i64 (((((D.f 1).f k5).f 4).l:Nat):Int))),(124,.v (.int .i64 ((aa:Nat):Int))),(172,.v (.int .i64 (((((((D.f 1).f k5).f 4).f aa).f 4).l:Nat):Int)))]) [173,0,6,8,10,15,17,22,70,71,123,124,172] (fun _ _ _=>by kernel_rfl)) ?_
    refine qec (e1:=[(0,.p 0 0),(6,.v (.bool (decide (v ≥ 0)))),(8,.v (.slice ((D.f 1).A) ((D.f 1).l) ((D.f 1).c))),(10,.p 1 0),(15,.v (.slice ((((D.f 1).f k5).f 4).A) ((((D.f 1).f k5).f 4).l) ((((D.f 1).f k5).f 4).c))),(17,.p 2 0),(22,.v (.slice ((((((D.f 1).f k5).f 4).f aa).f 4).A) ((((((D.f 1).f k5).f 4).f aa).f 4).l) ((((((D.f 1).f k5).f 4).f aa).f 4).c))),(70,.v (.int .i64 (((D.f 1).l:Nat):Int))),(71,.v (.int .i64 ((k5:Nat):Int))),(123,.v (.int .i64 (((((D.f 1).f k5).f 4).l:Nat):Int))),(124,.v (.int .i64 ((aa:Nat):Int))),(172,.v (.int .i64 (((((((D.f 1).f k5).f 4).f aa).f 4).l:Nat):Int)))]) [0,6,8,10,15,17,70,71,123,124] (fun _ _ _=>by kernel_rfl) ?_
    refine qd6 (len:=(((((D.f 1).f k5).f 4).f aa).f 4).l) (xs:=fun ab=>be 4 (((((((D.f 1).f k5).f 4).f aa).f 4).f ab).n)) 173 174 [0,6,8,10,15,17,22,70,71,123,124,172] (fun _ _ _ _=>by kernel_rfl) (fun _ _ _ _=>by kernel_rfl) (fun _ _ _ _ _=>by kernel_rfl) (fun _ _ _ _ _=>by kernel_rfl) kz (Nat.le_trans g20l (by decide)) (fun ab aj=>?_)
    refine qa1 (qaG (env':=[(0,.p 0 0),(6,.v (.bool (decide (v ≥ 0)))),(8,.v (.slice ((D.f 1).A) ((D.f 1).l) ((D.f 1).c))),(10,.p 1 0),(15,.v (.slice ((((D.f 1).f k5).f 4).A) ((((D.f 1).f k5).f 4).l) ((((D.f 1).f k5).f 4).c))),(17,.p 2 0),(22,.v (.slice ((((((D.f 1).f k5).f 4).f aa).f 4).A) ((((((D.f 1).f k5).f 4).f aa).f 4).l) ((((((D.f 1).f k5).f 4).f aa).f 4).c))),(23,.v (.int .i64 ((ab:Nat):Int))),(70,.v (.int .i64 (((D.f 1).l:Nat):Int))),(71,.v (.int .i64 ((k5:Nat):Int))),(123,.v (.int .i64 (((((D.f 1).f k5).f 4).l:Nat):Int))),(124,.v (.int .i64 ((aa:Nat):Int))),(172,.v (.int .i64 (((((((D.f 1).f k5).f 4).f aa).f 4).l:Nat):Int))),(173,.v (.int .i64 ((ab:Nat):Int)))]) [0,6,8,10,15,17,22,23,70,71,123,124,172,173] (fun _ _ _=>by kernel_rfl)) ?_
    refine qef (t:=88) (e:=21) (size:=1) (bytes:=4) (len:=(((((D.f 1).f k5).f 4).f aa).f 4).l) (j:=ab) (cs:=fun i=>[.int .i32 (((((((D.f 1).f k5).f 4).f aa).f 4).f i).n)]) (e1:=[(0,.p 0 0),(6,.v (.bool (decide (v ≥ 0)))),(8,.v (.slice ((D.f 1).A) ((D.f 1).l) ((D.f 1).c))),(10,.p 1 0),(15,.v (.slice ((((D.f 1).f k5).f 4).A) ((((D.f 1).f k5).f 4).l) ((((D.f 1).f k5).f 4).c))),(17,.p 2 0),(22,.v (.slice ((((((D.f 1).f k5).f 4).f aa).f 4).A) ((((((D.f 1).f k5).f 4).f aa).f 4).l) ((((((D.f 1).f k5).f 4).f aa).f 4).c))),(24,.v (.int .i32 (((((((D.f 1).f k5).f 4).f aa).f 4).f ab).n))),(70,.v (.int .i64 (((D.f 1).l:Nat):Int))),(71,.v (.int .i64 ((k5:Nat):Int))),(123,.v (.int .i64 (((((D.f 1).f k5).f 4).l:Nat):Int))),(124,.v (.int .i64 ((aa:Nat):Int))),(172,.v (.int .i64 (((((((D.f 1).f k5).f 4).f aa).f 4).l:Nat):Int))),(173,.v (.int .i64 ((ab:Nat):Int)))]) 2 [0,6,8,10,15,17,22,24,70,71,123,124,172,173] (fun _ _ _ _ _=>by kernel_rfl) kz kz aC aj hF kz kz kz fun bb3 oo3 hat3=>?_
    have aO:=g20e ab aj
    exact qbh (f:=33) (vs:=[.int .i32 (((((((D.f 1).f k5).f 4).f aa).f 4).f ab).n)]) 2 [173,0,6,8,10,15,17,22,70,71,123,124,172] (fun _ _ _ _ _ _=>by kernel_rfl) kz Tryz.call33 (fun A cp s w _ _ ho hr=>qbk A cp s (((((((D.f 1).f k5).f 4).f aa).f 4).f ab).n) w ho (by omega))
   refine qbF (e1:=[(0,.p 0 0),(6,.v (.bool (decide (v ≥ 0)))),(8,.v (.slice ((D.f 1).A) ((D.f 1).l) ((D.f 1).c))),(10,.p 1 0),(15,.v (.slice ((((D.f 1).f k5).f 4).A) ((((D.f 1).f k5).f 4).l) ((((D.f 1).f k5).f 4).c))),(17,.p 2 0),(70,.v (.int .i64 (((D.f 1).l:Nat):Int))),(71,.v (.int .i64 ((k5:Nat):Int))),(123,.v (.int .i64 (((((D.f 1).f k5).f 4).l:Nat):Int))),(124,.v (.int .i64 ((aa:Nat):Int)))]) ?_ ?_
   ·
    refine qa1 (qaG (env':=[(0,.p 0 0),(6,.v (.bool (decide (v ≥ 0)))),(8,.v (.slice ((D.f 1).A) ((D.f 1).l) ((D.f 1).c))),(10,.p 1 0),(15,.v (.slice ((((D.f 1).f k5).f 4).A) ((((D.f 1).f k5).f 4).l) ((((D.f 1).f k5).f 4).c))),(17,.p 2 0),(25,.v (.slice ((((((D.f 1).f k5).f 4).f aa).f 5).A) ((((((D.f 1).f k5).f 4).f aa).f 5).l) ((((((D.f 1).f k5).f 4).f aa).f 5).c))),(70,.v (.int .i64 (((D.f 1).l:Nat):Int))),(71,.v (.int .i64 ((k5:Nat):Int))),(123,.v (.int .i64 (((((D.f 1).f k5).f 4).l:Nat):Int))),(124,.v (.int .i64 ((aa:Nat):Int)))]) [0,6,8,10,15,17,25,70,71,123,124] (fun _ _ _=>by kernel_rfl)) ?_
    refine qbF (e1:=[(0,.p 0 0),(6,.v (.bool (decide (v ≥ 0)))),(8,.v (.slice ((D.f 1).A) ((D.f 1).l) ((D.f 1).c))),(10,.p 1 0),(15,.v (.slice ((((D.f 1).f k5).f 4).A) ((((D.f 1).f k5).f 4).l) ((((D.f 1).f k5).f 4).c))),(17,.p 2 0),(25,.v (.slice ((((((D.f 1).f k5).f 4).f aa).f 5).A) ((((((D.f 1).f k5).f 4).f aa).f 5).l) ((((((D.f 1).f k5).f 4).f aa).f 5).c))),(70,.v (.int .i64 (((D.f 1).l:Nat):Int))),(71,.v (.int .i64 ((k5:Nat):Int))),(123,.v (.int .i64 (((((D.f 1).f k5).f 4).l:Nat):Int))),(124,.v (.int .i64 ((aa:Nat):Int)))]) ?_ ?_
    ·
     refine qa1 (qaG (env':=[(0,.p 0 0),(6,.v (.bool (decide (v ≥ 0)))),(8,.v (.slice ((D.f 1).A) ((D.f 1).l) ((D.f 1).c))),(10,.p 1 0),(15,.v (.slice ((((D.f 1).f k5).f 4).A) ((((D.f 1).f k5).f 4).l) ((((D.f 1).f k5).f 4).c))),(17,.p 2 0),(25,.v (.slice ((((((D.f 1).f k5).f 4).f aa).f 5).A) ((((((D.f 1).f k5).f 4).f aa).f 5).l) ((((((D.f 1).f k5).f 4).f aa).f 5).c))),(70,.v (.int .i64 (((D.f 1).l:Nat):Int))),(71,.v (.int .i64 ((k5:Nat):Int))),(123,.v (.int .i64 (((((D.f 1).f k5).f 4).l:Nat):Int))),(124,.v (.int .i64 ((aa:Nat):Int))),(188,.v (.bool (decide (v ≥ 0))))]) [0,6,8,10,15,17,25,70,71,123,124,188] (fun _ _ _=>by kernel_rfl)) ?_
     refine qfn (b:=decide (v ≥ 0)) (fun _ _ _=>by kernel_rfl) (fun hb=>?_) (fun hb=>?_)
     ·
      exact qbh (f:=34) (vs:=[.int .i64 (((((((D.f 1).f k5).f 4).f aa).f 5).l:Nat):Int)]) 3 [0,6,8,10,15,17,25,70,71,123,124] (fun _ _ _ _ _ _=>by kernel_rfl) kz Tryz.call34 (fun A cp s w _ _ ho hr=>qbs (((((D.f 1).f k5).f 4).f aa).f 5).l g21l A cp s w ho hr)
     exact qbh (f:=35) (vs:=[.int .i64 (((((((D.f 1).f k5).f 4).f aa).f 5).l:Nat):Int)]) 3 [0,6,8,10,15,17,25,70,71,123,124] (fun _ _ _ _ _ _=>by kernel_rfl) kz Tryz.call35 (fun A cp s w _ _ ho hr=>qb8 (((((D.f 1).f k5).f 4).f aa).f 5).l A cp s w ho hr)
    refine qa1 (qaG (env':=[(199,.v (.int .i64 0)),(0,.p 0 0),(6,.v (.bool (decide (v ≥ 0)))),(8,.v (.slice ((D.f 1).A) ((D.f 1).l) ((D.f 1).c))),(10,.p 1 0),(15,.v (.slice ((((D.f 1).f k5).f 4).A) ((((D.f 1).f k5).f 4).l) ((((D.f 1).f k5).f 4).c))),(17,.p 2 0),(25,.v (.slice ((((((D.f 1).f k5).f 4).f aa).f 5).A) ((((((D.f 1).f k5).f 4).f aa).f 5).l) ((((((D.f 1).f k5).f 4).f aa).f 5).c))),(70,.v (.int .i64 (((D.f 1).l:Nat):Int))),(71,.v (.int .i64 ((k5:Nat):Int))),(123,.v (.int .i64 (((((D.f 1).f k5).f 4).l:Nat):Int))),(124,.v (.int .i64 ((aa:Nat):Int))),(198,.v (.int .i64 (((((((D.f 1).f k5).f 4).f aa).f 5).l:Nat):Int)))]) [199,0,6,8,10,15,17,25,70,71,123,124,198] (fun _ _ _=>by kernel_rfl)) ?_
    refine qec (e1:=[(0,.p 0 0),(6,.v (.bool (decide (v ≥ 0)))),(8,.v (.slice ((D.f 1).A) ((D.f 1).l) ((D.f 1).c))),(10,.p 1 0),(15,.v (.slice ((((D.f 1).f k5).f 4).A) ((((D.f 1).f k5).f 4).l) ((((D.f 1).f k5).f 4).c))),(17,.p 2 0),(25,.v (.slice ((((((D.f 1).f k5).f 4).f aa).f 5).A) ((((((D.f 1).f k5).f 4).f aa).f 5).l) ((((((D.f 1).f k5).f 4).f aa).f 5).c))),(70,.v (.int .i64 (((D.f 1).l:Nat):Int))),(71,.v (.int .i64 ((k5:Nat):Int))),(123,.v (.int .i64 (((((D.f 1).f k5).f 4).l:Nat):Int))),(124,.v (.int .i64 ((aa:Nat):Int))),(198,.v (.int .i64 (((((((D.f 1).f k5).f 4).f aa).f 5).l:Nat):Int)))]) [0,6,8,10,15,17,70,71,123,124] (fun _ _ _=>by kernel_rfl) ?_
    refine qd6 (len:=(((((D.f 1).f k5).f 4).f aa).f 5).l) (xs:=fun ac=>be 4 (((((((D.f 1).f k5).f 4).f aa).f 5).f ac).n)) 199 200 [0,6,8,10,15,17,25,70,71,123,124,198] (fun _ _ _ _=>by kernel_rfl) (fun _ _ _ _=>by kernel_rfl) (fun _ _ _ _ _=>by kernel_rfl) (fun _ _ _ _ _=>by kernel_rfl) kz (Nat.le_trans g21l (by decide)) (fun ac ak=>?_)
    refine qa1 (qaG (env':=[(0,.p 0 0),(6,.v (.bool (decide (v ≥ 0)))),(8,.v (.slice ((D.f 1).A) ((D.f 1).l) ((D.f 1).c))),(10,.p 1 0),(15,.v (.slice ((((D.f 1).f k5).f 4).A) ((((D.f 1).f k5).f 4).l) ((((D.f 1).f k5).f 4).c))),(17,.p 2 0),(25,.v (.slice ((((((D.f 1).f k5).f 4).f aa).f 5).A) ((((((D.f 1).f k5).f 4).f aa).f 5).l) ((((((D.f 1).f k5).f 4).f aa).f 5).c))),(26,.v (.int .i64 ((ac:Nat):Int))),(70,.v (.int .i64 (((D.f 1).l:Nat):Int))),(71,.v (.int .i64 ((k5:Nat):Int))),(123,.v (.int .i64 (((((D.f 1).f k5).f 4).l:Nat):Int))),(124,.v (.int .i64 ((aa:Nat):Int))),(198,.v (.int .i64 (((((((D.f 1).f k5).f 4).f aa).f 5).l:Nat):Int))),(199,.v (.int .i64 ((ac:Nat):Int)))]) [0,6,8,10,15,17,25,26,70,71,123,124,198,199] (fun _ _ _=>by kernel_rfl)) ?_
    refine qef (t:=88) (e:=21) (size:=1) (bytes:=4) (len:=(((((D.f 1).f k5).f 4).f aa).f 5).l) (j:=ac) (cs:=fun i=>[.int .i32 (((((((D.f 1).f k5).f 4).f aa).f 5).f i).n)]) (e1:=[(0,.p 0 0),(6,.v (.bool (decide (v ≥ 0)))),(8,.v (.slice ((D.f 1).A) ((D.f 1).l) ((D.f 1).c))),(10,.p 1 0),(15,.v (.slice ((((D.f 1).f k5).f 4).A) ((((D.f 1).f k5).f 4).l) ((((D.f 1).f k5).f 4).c))),(17,.p 2 0),(25,.v (.slice ((((((D.f 1).f k5).f 4).f aa).f 5).A) ((((((D.f 1).f k5).f 4).f aa).f 5).l) ((((((D.f 1).f k5).f 4).f aa).f 5).c))),(27,.v (.int .i32 (((((((D.f 1).f k5).f 4).f aa).f 5).f ac).n))),(70,.v (.int .i64 (((D.f 1).l:Nat):Int))),(71,.v (.int .i64 ((k5:Nat):Int))),(123,.v (.int .i64 (((((D.f 1).f k5).f 4).l:Nat):Int))),(124,.v (.int .i64 ((aa:Nat):Int))),(198,.v (.int .i64 (((((((D.f 1).f k5).f 4).f aa).f 5).l:Nat):Int))),(199,.v (.int .i64 ((ac:Nat):Int)))]) 2 [0,6,8,10,15,17,25,27,70,71,123,124,198,199] (fun _ _ _ _ _=>by kernel_rfl) kz kz aD ak hF kz kz kz fun bb3 oo3 hat3=>?_
    have aP:=g21e ac ak
    exact qbh (f:=33) (vs:=[.int .i32 (((((((D.f 1).f k5).f 4).f aa).f 5).f ac).n)]) 2 [199,0,6,8,10,15,17,25,70,71,123,124,198] (fun _ _ _ _ _ _=>by kernel_rfl) kz Tryz.call33 (fun A cp s w _ _ ho hr=>qbk A cp s (((((((D.f 1).f k5).f 4).f aa).f 5).f ac).n) w ho (by omega))
   refine qbF (e1:=[(0,.p 0 0),(6,.v (.bool (decide (v ≥ 0)))),(8,.v (.slice ((D.f 1).A) ((D.f 1).l) ((D.f 1).c))),(10,.p 1 0),(15,.v (.slice ((((D.f 1).f k5).f 4).A) ((((D.f 1).f k5).f 4).l) ((((D.f 1).f k5).f 4).c))),(17,.p 2 0),(70,.v (.int .i64 (((D.f 1).l:Nat):Int))),(71,.v (.int .i64 ((k5:Nat):Int))),(123,.v (.int .i64 (((((D.f 1).f k5).f 4).l:Nat):Int))),(124,.v (.int .i64 ((aa:Nat):Int)))]) ?_ ?_
   ·
    refine qa1 (qaG (env':=[(0,.p 0 0),(6,.v (.bool (decide (v ≥ 0)))),(8,.v (.slice ((D.f 1).A) ((D.f 1).l) ((D.f 1).c))),(10,.p 1 0),(15,.v (.slice ((((D.f 1).f k5).f 4).A) ((((D.f 1).f k5).f 4).l) ((((D.f 1).f k5).f 4).c))),(17,.p 2 0),(28,.v (.slice ((((((D.f 1).f k5).f 4).f aa).f 6).A) ((((((D.f 1).f k5).f 4).f aa).f 6).l) ((((((D.f 1).f k5).f 4).f aa).f 6).c))),(70,.v (.int .i64 (((D.f 1).l:Nat):Int))),(71,.v (.int .i64 ((k5:Nat):Int))),(123,.v (.int .i64 (((((D.f 1).f k5).f 4).l:Nat):Int))),(124,.v (.int .i64 ((aa:Nat):Int)))]) [0,6,8,10,15,17,28,70,71,123,124] (fun _ _ _=>by kernel_rfl)) ?_
    refine qbF (e1:=[(0,.p 0 0),(6,.v (.bool (decide (v ≥ 0)))),(8,.v (.slice ((D.f 1).A) ((D.f 1).l) ((D.f 1).c))),(10,.p 1 0),(15,.v (.slice ((((D.f 1).f k5).f 4).A) ((((D.f 1).f k5).f 4).l) ((((D.f 1).f k5).f 4).c))),(17,.p 2 0),(28,.v (.slice ((((((D.f 1).f k5).f 4).f aa).f 6).A) ((((((D.f 1).f k5).f 4).f aa).f 6).l) ((((((D.f 1).f k5).f 4).f aa).f 6).c))),(70,.v (.int .i64 (((D.f 1).l:Nat):Int))),(71,.v (.int .i64 ((k5:Nat):Int))),(123,.v (.int .i64 (((((D.f 1).f k5).f 4).l:Nat):Int))),(124,.v (.int .i64 ((aa:Nat):Int)))]) ?_ ?_
    ·
     refine qa1 (qaG (env':=[(0,.p 0 0),(6,.v (.bool (decide (v ≥ 0)))),(8,.v (.slice ((D.f 1).A) ((D.f 1).l) ((D.f 1).c))),(10,.p 1 0),(15,.v (.slice ((((D.f 1).f k5).f 4).A) ((((D.f 1).f k5).f 4).l) ((((D.f 1).f k5).f 4).c))),(17,.p 2 0),(28,.v (.slice ((((((D.f 1).f k5).f 4).f aa).f 6).A) ((((((D.f 1).f k5).f 4).f aa).f 6).l) ((((((D.f 1).f k5).f 4).f aa).f 6).c))),(70,.v (.int .i64 (((D.f 1).l:Nat):Int))),(71,.v (.int .i64 ((k5:Nat):Int))),(123,.v (.int .i64 (((((D.f 1).f k5).f 4).l:Nat):Int))),(124,.v (.int .i64 ((aa:Nat):Int))),(214,.v (.bool (decide (v ≥ 0))))]) [0,6,8,10,15,17,28,70,71,123,124,214] (fun _ _ _=>by kernel_rfl)) ?_
     refine qfn (b:=decide (v ≥ 0)) (fun _ _ _=>by kernel_rfl) (fun hb=>?_) (fun hb=>?_)
     ·
      exact qbh (f:=41) (vs:=[.int .i64 (((((((D.f 1).f k5).f 4).f aa).f 6).l:Nat):Int),.bool (((((((D.f 1).f k5).f 4).f aa).f 6).A).isNone)]) 5 [0,6,8,10,15,17,28,70,71,123,124] (fun _ _ _ _ _ _=>by kernel_rfl) kz Tryz.call41 (fun A cp s w _ _ ho hr=>qbQ (((((D.f 1).f k5).f 4).f aa).f 6).l g22l (((((((D.f 1).f k5).f 4).f aa).f 6).A).isNone) A cp s w ho hr)
     exact qbh (f:=42) (vs:=[.int .i64 (((((((D.f 1).f k5).f 4).f aa).f 6).l:Nat):Int),.bool (((((((D.f 1).f k5).f 4).f aa).f 6).A).isNone)]) 5 [0,6,8,10,15,17,28,70,71,123,124] (fun _ _ _ _ _ _=>by kernel_rfl) kz Tryz.call42 (fun A cp s w _ _ ho hr=>qcr (((((D.f 1).f k5).f 4).f aa).f 6).l g22l (((((((D.f 1).f k5).f 4).f aa).f 6).A).isNone) A cp s w ho hr)
    refine qa1 (qaG (env':=[(229,.v (.int .i64 0)),(0,.p 0 0),(6,.v (.bool (decide (v ≥ 0)))),(8,.v (.slice ((D.f 1).A) ((D.f 1).l) ((D.f 1).c))),(10,.p 1 0),(15,.v (.slice ((((D.f 1).f k5).f 4).A) ((((D.f 1).f k5).f 4).l) ((((D.f 1).f k5).f 4).c))),(17,.p 2 0),(28,.v (.slice ((((((D.f 1).f k5).f 4).f aa).f 6).A) ((((((D.f 1).f k5).f 4).f aa).f 6).l) ((((((D.f 1).f k5).f 4).f aa).f 6).c))),(70,.v (.int .i64 (((D.f 1).l:Nat):Int))),(71,.v (.int .i64 ((k5:Nat):Int))),(123,.v (.int .i64 (((((D.f 1).f k5).f 4).l:Nat):Int))),(124,.v (.int .i64 ((aa:Nat):Int))),(228,.v (.int .i64 (((((((D.f 1).f k5).f 4).f aa).f 6).l:Nat):Int)))]) [229,0,6,8,10,15,17,28,70,71,123,124,228] (fun _ _ _=>by kernel_rfl)) ?_
    refine qec (e1:=[(0,.p 0 0),(6,.v (.bool (decide (v ≥ 0)))),(8,.v (.slice ((D.f 1).A) ((D.f 1).l) ((D.f 1).c))),(10,.p 1 0),(15,.v (.slice ((((D.f 1).f k5).f 4).A) ((((D.f 1).f k5).f 4).l) ((((D.f 1).f k5).f 4).c))),(17,.p 2 0),(28,.v (.slice ((((((D.f 1).f k5).f 4).f aa).f 6).A) ((((((D.f 1).f k5).f 4).f aa).f 6).l) ((((((D.f 1).f k5).f 4).f aa).f 6).c))),(70,.v (.int .i64 (((D.f 1).l:Nat):Int))),(71,.v (.int .i64 ((k5:Nat):Int))),(123,.v (.int .i64 (((((D.f 1).f k5).f 4).l:Nat):Int))),(124,.v (.int .i64 ((aa:Nat):Int))),(228,.v (.int .i64 (((((((D.f 1).f k5).f 4).f aa).f 6).l:Nat):Int)))]) [0,6,8,10,15,17,70,71,123,124] (fun _ _ _=>by kernel_rfl) ?_
    refine qd6 (len:=(((((D.f 1).f k5).f 4).f aa).f 6).l) (xs:=fun ae=>be 4 (((((((D.f 1).f k5).f 4).f aa).f 6).f ae).n)) 229 230 [0,6,8,10,15,17,28,70,71,123,124,228] (fun _ _ _ _=>by kernel_rfl) (fun _ _ _ _=>by kernel_rfl) (fun _ _ _ _ _=>by kernel_rfl) (fun _ _ _ _ _=>by kernel_rfl) kz (Nat.le_trans g22l (by decide)) (fun ae al=>?_)
    refine qa1 (qaG (env':=[(0,.p 0 0),(6,.v (.bool (decide (v ≥ 0)))),(8,.v (.slice ((D.f 1).A) ((D.f 1).l) ((D.f 1).c))),(10,.p 1 0),(15,.v (.slice ((((D.f 1).f k5).f 4).A) ((((D.f 1).f k5).f 4).l) ((((D.f 1).f k5).f 4).c))),(17,.p 2 0),(28,.v (.slice ((((((D.f 1).f k5).f 4).f aa).f 6).A) ((((((D.f 1).f k5).f 4).f aa).f 6).l) ((((((D.f 1).f k5).f 4).f aa).f 6).c))),(29,.v (.int .i64 ((ae:Nat):Int))),(70,.v (.int .i64 (((D.f 1).l:Nat):Int))),(71,.v (.int .i64 ((k5:Nat):Int))),(123,.v (.int .i64 (((((D.f 1).f k5).f 4).l:Nat):Int))),(124,.v (.int .i64 ((aa:Nat):Int))),(228,.v (.int .i64 (((((((D.f 1).f k5).f 4).f aa).f 6).l:Nat):Int))),(229,.v (.int .i64 ((ae:Nat):Int)))]) [0,6,8,10,15,17,28,29,70,71,123,124,228,229] (fun _ _ _=>by kernel_rfl)) ?_
    refine qef (t:=88) (e:=21) (size:=1) (bytes:=4) (len:=(((((D.f 1).f k5).f 4).f aa).f 6).l) (j:=ae) (cs:=fun i=>[.int .i32 (((((((D.f 1).f k5).f 4).f aa).f 6).f i).n)]) (e1:=[(0,.p 0 0),(6,.v (.bool (decide (v ≥ 0)))),(8,.v (.slice ((D.f 1).A) ((D.f 1).l) ((D.f 1).c))),(10,.p 1 0),(15,.v (.slice ((((D.f 1).f k5).f 4).A) ((((D.f 1).f k5).f 4).l) ((((D.f 1).f k5).f 4).c))),(17,.p 2 0),(28,.v (.slice ((((((D.f 1).f k5).f 4).f aa).f 6).A) ((((((D.f 1).f k5).f 4).f aa).f 6).l) ((((((D.f 1).f k5).f 4).f aa).f 6).c))),(30,.v (.int .i32 (((((((D.f 1).f k5).f 4).f aa).f 6).f ae).n))),(70,.v (.int .i64 (((D.f 1).l:Nat):Int))),(71,.v (.int .i64 ((k5:Nat):Int))),(123,.v (.int .i64 (((((D.f 1).f k5).f 4).l:Nat):Int))),(124,.v (.int .i64 ((aa:Nat):Int))),(228,.v (.int .i64 (((((((D.f 1).f k5).f 4).f aa).f 6).l:Nat):Int))),(229,.v (.int .i64 ((ae:Nat):Int)))]) 2 [0,6,8,10,15,17,28,30,70,71,123,124,228,229] (fun _ _ _ _ _=>by kernel_rfl) kz kz aE al hF kz kz kz fun bb3 oo3 hat3=>?_
    have aQ:=g22e ae al
    exact qbh (f:=33) (vs:=[.int .i32 (((((((D.f 1).f k5).f 4).f aa).f 6).f ae).n)]) 2 [229,0,6,8,10,15,17,28,70,71,123,124,228] (fun _ _ _ _ _ _=>by kernel_rfl) kz Tryz.call33 (fun A cp s w _ _ ho hr=>qbk A cp s (((((((D.f 1).f k5).f 4).f aa).f 6).f ae).n) w ho (by omega))
   refine qbF (e1:=[(0,.p 0 0),(6,.v (.bool (decide (v ≥ 0)))),(8,.v (.slice ((D.f 1).A) ((D.f 1).l) ((D.f 1).c))),(10,.p 1 0),(15,.v (.slice ((((D.f 1).f k5).f 4).A) ((((D.f 1).f k5).f 4).l) ((((D.f 1).f k5).f 4).c))),(17,.p 2 0),(70,.v (.int .i64 (((D.f 1).l:Nat):Int))),(71,.v (.int .i64 ((k5:Nat):Int))),(123,.v (.int .i64 (((((D.f 1).f k5).f 4).l:Nat):Int))),(124,.v (.int .i64 ((aa:Nat):Int)))]) ?_ ?_
   ·
    refine qa1 (qaG (env':=[(0,.p 0 0),(6,.v (.bool (decide (v ≥ 0)))),(8,.v (.slice ((D.f 1).A) ((D.f 1).l) ((D.f 1).c))),(10,.p 1 0),(15,.v (.slice ((((D.f 1).f k5).f 4).A) ((((D.f 1).f k5).f 4).l) ((((D.f 1).f k5).f 4).c))),(17,.p 2 0),(31,.v (.slice ((((((D.f 1).f k5).f 4).f aa).f 7).A) ((((((D.f 1).f k5).f 4).f aa).f 7).l) ((((((D.f 1).f k5).f 4).f aa).f 7).c))),(70,.v (.int .i64 (((D.f 1).l:Nat):Int))),(71,.v (.int .i64 ((k5:Nat):Int))),(123,.v (.int .i64 (((((D.f 1).f k5).f 4).l:Nat):Int))),(124,.v (.int .i64 ((aa:Nat):Int)))]) [0,6,8,10,15,17,31,70,71,123,124] (fun _ _ _=>by kernel_rfl)) ?_
    refine qbF (e1:=[(0,.p 0 0),(6,.v (.bool (decide (v ≥ 0)))),(8,.v (.slice ((D.f 1).A) ((D.f 1).l) ((D.f 1).c))),(10,.p 1 0),(15,.v (.slice ((((D.f 1).f k5).f 4).A) ((((D.f 1).f k5).f 4).l) ((((D.f 1).f k5).f 4).c))),(17,.p 2 0),(31,.v (.slice ((((((D.f 1).f k5).f 4).f aa).f 7).A) ((((((D.f 1).f k5).f 4).f aa).f 7).l) ((((((D.f 1).f k5).f 4).f aa).f 7).c))),(70,.v (.int .i64 (((D.f 1).l:Nat):Int))),(71,.v (.int .i64 ((k5:Nat):Int))),(123,.v (.int .i64 (((((D.f 1).f k5).f 4).l:Nat):Int))),(124,.v (.int .i64 ((aa:Nat):Int)))]) ?_ ?_
    ·
     refine qa1 (qaG (env':=[(0,.p 0 0),(6,.v (.bool (decide (v ≥ 0)))),(8,.v (.slice ((D.f 1).A) ((D.f 1).l) ((D.f 1).c))),(10,.p 1 0),(15,.v (.slice ((((D.f 1).f k5).f 4).A) ((((D.f 1).f k5).f 4).l) ((((D.f 1).f k5).f 4).c))),(17,.p 2 0),(31,.v (.slice ((((((D.f 1).f k5).f 4).f aa).f 7).A) ((((((D.f 1).f k5).f 4).f aa).f 7).l) ((((((D.f 1).f k5).f 4).f aa).f 7).c))),(70,.v (.int .i64 (((D.f 1).l:Nat):Int))),(71,.v (.int .i64 ((k5:Nat):Int))),(123,.v (.int .i64 (((((D.f 1).f k5).f 4).l:Nat):Int))),(124,.v (.int .i64 ((aa:Nat):Int))),(244,.v (.bool (decide (v ≥ 0))))]) [0,6,8,10,15,17,31,70,71,123,124,244] (fun _ _ _=>by kernel_rfl)) ?_
     refine qfn (b:=decide (v ≥ 0)) (fun _ _ _=>by kernel_rfl) (fun hb=>?_) (fun hb=>?_)
     ·
      exact qbh (f:=41) (vs:=[.int .i64 (((((((D.f 1).f k5).f 4).f aa).f 7).l:Nat):Int),.bool (((((((D.f 1).f k5).f 4).f aa).f 7).A).isNone)]) 5 [0,6,8,10,15,17,31,70,71,123,124] (fun _ _ _ _ _ _=>by kernel_rfl) kz Tryz.call41 (fun A cp s w _ _ ho hr=>qbQ (((((D.f 1).f k5).f 4).f aa).f 7).l g23l (((((((D.f 1).f k5).f 4).f aa).f 7).A).isNone) A cp s w ho hr)
     exact qbh (f:=42) (vs:=[.int .i64 (((((((D.f 1).f k5).f 4).f aa).f 7).l:Nat):Int),.bool (((((((D.f 1).f k5).f 4).f aa).f 7).A).isNone)]) 5 [0,6,8,10,15,17,31,70,71,123,124] (fun _ _ _ _ _ _=>by kernel_rfl) kz Tryz.call42 (fun A cp s w _ _ ho hr=>qcr (((((D.f 1).f k5).f 4).f aa).f 7).l g23l (((((((D.f 1).f k5).f 4).f aa).f 7).A).isNone) A cp s w ho hr)
    refine qa1 (qaG (env':=[(259,.v (.int .i64 0)),(0,.p 0 0),(6,.v (.bool (decide (v ≥ 0)))),(8,.v (.slice ((D.f 1).A) ((D.f 1).l) ((D.f 1).c))),(10,.p 1 0),(15,.v (.slice ((((D.f 1).f k5).f 4).A) ((((D.f 1).f k5).f 4).l) ((((D.f 1).f k5).f 4).c))),(17,.p 2 0),(31,.v (.slice ((((((D.f 1).f k5).f 4).f aa).f 7).A) ((((((D.f 1).f k5).f 4).f aa).f 7).l) ((((((D.f 1).f k5).f 4).f aa).f 7).c))),(70,.v (.int .i64 (((D.f 1).l:Nat):Int))),(71,.v (.int .i64 ((k5:Nat):Int))),(123,.v (.int .i64 (((((D.f 1).f k5).f 4).l:Nat):Int))),(124,.v (.int .i64 ((aa:Nat):Int))),(258,.v (.int .i64 (((((((D.f 1).f k5).f 4).f aa).f 7).l:Nat):Int)))]) [259,0,6,8,10,15,17,31,70,71,123,124,258] (fun _ _ _=>by kernel_rfl)) ?_
    refine qec (e1:=[(0,.p 0 0),(6,.v (.bool (decide (v ≥ 0)))),(8,.v (.slice ((D.f 1).A) ((D.f 1).l) ((D.f 1).c))),(10,.p 1 0),(15,.v (.slice ((((D.f 1).f k5).f 4).A) ((((D.f 1).f k5).f 4).l) ((((D.f 1).f k5).f 4).c))),(17,.p 2 0),(31,.v (.slice ((((((D.f 1).f k5).f 4).f aa).f 7).A) ((((((D.f 1).f k5).f 4).f aa).f 7).l) ((((((D.f 1).f k5).f 4).f aa).f 7).c))),(70,.v (.int .i64 (((D.f 1).l:Nat):Int))),(71,.v (.int .i64 ((k5:Nat):Int))),(123,.v (.int .i64 (((((D.f 1).f k5).f 4).l:Nat):Int))),(124,.v (.int .i64 ((aa:Nat):Int))),(258,.v (.int .i64 (((((((D.f 1).f k5).f 4).f aa).f 7).l:Nat):Int)))]) [0,6,8,10,15,17,70,71,123,124] (fun _ _ _=>by kernel_rfl) ?_
    refine qd6 (len:=(((((D.f 1).f k5).f 4).f aa).f 7).l) (xs:=fun af=>be 4 (((((((D.f 1).f k5).f 4).f aa).f 7).f af).n)) 259 260 [0,6,8,10,15,17,31,70,71,123,124,258] (fun _ _ _ _=>by kernel_rfl) (fun _ _ _ _=>by kernel_rfl) (fun _ _ _ _ _=>by kernel_rfl) (fun _ _ _ _ _=>by kernel_rfl) kz (Nat.le_trans g23l (by decide)) (fun af am=>?_)
    refine qa1 (qaG (env':=[(0,.p 0 0),(6,.v (.bool (decide (v ≥ 0)))),(8,.v (.slice ((D.f 1).A) ((D.f 1).l) ((D.f 1).c))),(10,.p 1 0),(15,.v (.slice ((((D.f 1).f k5).f 4).A) ((((D.f 1).f k5).f 4).l) ((((D.f 1).f k5).f 4).c))),(17,.p 2 0),(31,.v (.slice ((((((D.f 1).f k5).f 4).f aa).f 7).A) ((((((D.f 1).f k5).f 4).f aa).f 7).l) ((((((D.f 1).f k5).f 4).f aa).f 7).c))),(32,.v (.int .i64 ((af:Nat):Int))),(70,.v (.int .i64 (((D.f 1).l:Nat):Int))),(71,.v (.int .i64 ((k5:Nat):Int))),(123,.v (.int .i64 (((((D.f 1).f k5).f 4).l:Nat):Int))),(124,.v (.int .i64 ((aa:Nat):Int))),(258,.v (.int .i64 (((((((D.f 1).f k5).f 4).f aa).f 7).l:Nat):Int))),(259,.v (.int .i64 ((af:Nat):Int)))]) [0,6,8,10,15,17,31,32,70,71,123,124,258,259] (fun _ _ _=>by kernel_rfl)) ?_
    refine qef (t:=88) (e:=21) (size:=1) (bytes:=4) (len:=(((((D.f 1).f k5).f 4).f aa).f 7).l) (j:=af) (cs:=fun i=>[.int .i32 (((((((D.f 1).f k5).f 4).f aa).f 7).f i).n)]) (e1:=[(0,.p 0 0),(6,.v (.bool (decide (v ≥ 0)))),(8,.v (.slice ((D.f 1).A) ((D.f 1).l) ((D.f 1).c))),(10,.p 1 0),(15,.v (.slice ((((D.f 1).f k5).f 4).A) ((((D.f 1).f k5).f 4).l) ((((D.f 1).f k5).f 4).c))),(17,.p 2 0),(31,.v (.slice ((((((D.f 1).f k5).f 4).f aa).f 7).A) ((((((D.f 1).f k5).f 4).f aa).f 7).l) ((((((D.f 1).f k5).f 4).f aa).f 7).c))),(33,.v (.int .i32 (((((((D.f 1).f k5).f 4).f aa).f 7).f af).n))),(70,.v (.int .i64 (((D.f 1).l:Nat):Int))),(71,.v (.int .i64 ((k5:Nat):Int))),(123,.v (.int .i64 (((((D.f 1).f k5).f 4).l:Nat):Int))),(124,.v (.int .i64 ((aa:Nat):Int))),(258,.v (.int .i64 (((((((D.f 1).f k5).f 4).f aa).f 7).l:Nat):Int))),(259,.v (.int .i64 ((af:Nat):Int)))]) 2 [0,6,8,10,15,17,31,33,70,71,123,124,258,259] (fun _ _ _ _ _=>by kernel_rfl) kz kz aF am hF kz kz kz fun bb3 oo3 hat3=>?_
    have aR:=g23e af am
    exact qbh (f:=33) (vs:=[.int .i32 (((((((D.f 1).f k5).f 4).f aa).f 7).f af).n)]) 2 [259,0,6,8,10,15,17,31,70,71,123,124,258] (fun _ _ _ _ _ _=>by kernel_rfl) kz Tryz.call33 (fun A cp s w _ _ ho hr=>qbk A cp s (((((((D.f 1).f k5).f 4).f aa).f 7).f af).n) w ho (by omega))
   refine qbF (e1:=[(0,.p 0 0),(6,.v (.bool (decide (v ≥ 0)))),(8,.v (.slice ((D.f 1).A) ((D.f 1).l) ((D.f 1).c))),(10,.p 1 0),(15,.v (.slice ((((D.f 1).f k5).f 4).A) ((((D.f 1).f k5).f 4).l) ((((D.f 1).f k5).f 4).c))),(17,.p 2 0),(70,.v (.int .i64 (((D.f 1).l:Nat):Int))),(71,.v (.int .i64 ((k5:Nat):Int))),(123,.v (.int .i64 (((((D.f 1).f k5).f 4).l:Nat):Int))),(124,.v (.int .i64 ((aa:Nat):Int)))]) ?_ ?_
   ·
    refine qa1 (qaG (env':=[(0,.p 0 0),(6,.v (.bool (decide (v ≥ 0)))),(8,.v (.slice ((D.f 1).A) ((D.f 1).l) ((D.f 1).c))),(10,.p 1 0),(15,.v (.slice ((((D.f 1).f k5).f 4).A) ((((D.f 1).f k5).f 4).l) ((((D.f 1).f k5).f 4).c))),(17,.p 2 0),(34,.v (.slice ((((((D.f 1).f k5).f 4).f aa).f 8).A) ((((((D.f 1).f k5).f 4).f aa).f 8).l) ((((((D.f 1).f k5).f 4).f aa).f 8).c))),(70,.v (.int .i64 (((D.f 1).l:Nat):Int))),(71,.v (.int .i64 ((k5:Nat):Int))),(123,.v (.int .i64 (((((D.f 1).f k5).f 4).l:Nat):Int))),(124,.v (.int .i64 ((aa:Nat):Int)))]) [0,6,8,10,15,17,34,70,71,123,124] (fun _ _ _=>by kernel_rfl)) ?_
    refine qbF (e1:=[(0,.p 0 0),(6,.v (.bool (decide (v ≥ 0)))),(8,.v (.slice ((D.f 1).A) ((D.f 1).l) ((D.f 1).c))),(10,.p 1 0),(15,.v (.slice ((((D.f 1).f k5).f 4).A) ((((D.f 1).f k5).f 4).l) ((((D.f 1).f k5).f 4).c))),(17,.p 2 0),(34,.v (.slice ((((((D.f 1).f k5).f 4).f aa).f 8).A) ((((((D.f 1).f k5).f 4).f aa).f 8).l) ((((((D.f 1).f k5).f 4).f aa).f 8).c))),(70,.v (.int .i64 (((D.f 1).l:Nat):Int))),(71,.v (.int .i64 ((k5:Nat):Int))),(123,.v (.int .i64 (((((D.f 1).f k5).f 4).l:Nat):Int))),(124,.v (.int .i64 ((aa:Nat):Int)))]) ?_ ?_
    ·
     refine qa1 (qaG (env':=[(0,.p 0 0),(6,.v (.bool (decide (v ≥ 0)))),(8,.v (.slice ((D.f 1).A) ((D.f 1).l) ((D.f 1).c))),(10,.p 1 0),(15,.v (.slice ((((D.f 1).f k5).f 4).A) ((((D.f 1).f k5).f 4).l) ((((D.f 1).f k5).f 4).c))),(17,.p 2 0),(34,.v (.slice ((((((D.f 1).f k5).f 4).f aa).f 8).A) ((((((D.f 1).f k5).f 4).f aa).f 8).l) ((((((D.f 1).f k5).f 4).f aa).f 8).c))),(70,.v (.int .i64 (((D.f 1).l:Nat):Int))),(71,.v (.int .i64 ((k5:Nat):Int))),(123,.v (.int .i64 (((((D.f 1).f k5).f 4).l:Nat):Int))),(124,.v (.int .i64 ((aa:Nat):Int))),(274,.v (.bool (decide (v ≥ 0))))]) [0,6,8,10,15,17,34,70,71,123,124,274] (fun _ _ _=>by kernel_rfl)) ?_
     refine qfn (b:=decide (v ≥ 0)) (fun _ _ _=>by kernel_rfl) (fun hb=>?_) (fun hb=>?_)
     ·
      exact qbh (f:=34) (vs:=[.int .i64 (((((((D.f 1).f k5).f 4).f aa).f 8).l:Nat):Int)]) 3 [0,6,8,10,15,17,34,70,71,123,124] (fun _ _ _ _ _ _=>by kernel_rfl) kz Tryz.call34 (fun A cp s w _ _ ho hr=>qbs (((((D.f 1).f k5).f 4).f aa).f 8).l g24l A cp s w ho hr)
     exact qbh (f:=35) (vs:=[.int .i64 (((((((D.f 1).f k5).f 4).f aa).f 8).l:Nat):Int)]) 3 [0,6,8,10,15,17,34,70,71,123,124] (fun _ _ _ _ _ _=>by kernel_rfl) kz Tryz.call35 (fun A cp s w _ _ ho hr=>qb8 (((((D.f 1).f k5).f 4).f aa).f 8).l A cp s w ho hr)
    refine qa1 (qaG (env':=[(285,.v (.int .i64 0)),(0,.p 0 0),(6,.v (.bool (decide (v ≥ 0)))),(8,.v (.slice ((D.f 1).A) ((D.f 1).l) ((D.f 1).c))),(10,.p 1 0),(15,.v (.slice ((((D.f 1).f k5).f 4).A) ((((D.f 1).f k5).f 4).l) ((((D.f 1).f k5).f 4).c))),(17,.p 2 0),(34,.v (.slice ((((((D.f 1).f k5).f 4).f aa).f 8).A) ((((((D.f 1).f k5).f 4).f aa).f 8).l) ((((((D.f 1).f k5).f 4).f aa).f 8).c))),(70,.v (.int .i64 (((D.f 1).l:Nat):Int))),(71,.v (.int .i64 ((k5:Nat):Int))),(123,.v (.int .i64 (((((D.f 1).f k5).f 4).l:Nat):Int))),(124,.v (.int .i64 ((aa:Nat):Int))),(284,.v (.int .i64 (((((((D.f 1).f k5).f 4).f aa).f 8).l:Nat):Int)))]) [285,0,6,8,10,15,17,34,70,71,123,124,284] (fun _ _ _=>by kernel_rfl)) ?_
    refine qec (e1:=[(0,.p 0 0),(6,.v (.bool (decide (v ≥ 0)))),(8,.v (.slice ((D.f 1).A) ((D.f 1).l) ((D.f 1).c))),(10,.p 1 0),(15,.v (.slice ((((D.f 1).f k5).f 4).A) ((((D.f 1).f k5).f 4).l) ((((D.f 1).f k5).f 4).c))),(17,.p 2 0),(34,.v (.slice ((((((D.f 1).f k5).f 4).f aa).f 8).A) ((((((D.f 1).f k5).f 4).f aa).f 8).l) ((((((D.f 1).f k5).f 4).f aa).f 8).c))),(70,.v (.int .i64 (((D.f 1).l:Nat):Int))),(71,.v (.int .i64 ((k5:Nat):Int))),(123,.v (.int .i64 (((((D.f 1).f k5).f 4).l:Nat):Int))),(124,.v (.int .i64 ((aa:Nat):Int))),(284,.v (.int .i64 (((((((D.f 1).f k5).f 4).f aa).f 8).l:Nat):Int)))]) [0,6,8,10,15,17,70,71,123,124] (fun _ _ _=>by kernel_rfl) ?_
    refine qd6 (len:=(((((D.f 1).f k5).f 4).f aa).f 8).l) (xs:=fun ag=>be 4 (((((((D.f 1).f k5).f 4).f aa).f 8).f ag).n)) 285 286 [0,6,8,10,15,17,34,70,71,123,124,284] (fun _ _ _ _=>by kernel_rfl) (fun _ _ _ _=>by kernel_rfl) (fun _ _ _ _ _=>by kernel_rfl) (fun _ _ _ _ _=>by kernel_rfl) kz (Nat.le_trans g24l (by decide)) (fun ag ao=>?_)
    refine qa1 (qaG (env':=[(0,.p 0 0),(6,.v (.bool (decide (v ≥ 0)))),(8,.v (.slice ((D.f 1).A) ((D.f 1).l) ((D.f 1).c))),(10,.p 1 0),(15,.v (.slice ((((D.f 1).f k5).f 4).A) ((((D.f 1).f k5).f 4).l) ((((D.f 1).f k5).f 4).c))),(17,.p 2 0),(34,.v (.slice ((((((D.f 1).f k5).f 4).f aa).f 8).A) ((((((D.f 1).f k5).f 4).f aa).f 8).l) ((((((D.f 1).f k5).f 4).f aa).f 8).c))),(35,.v (.int .i64 ((ag:Nat):Int))),(70,.v (.int .i64 (((D.f 1).l:Nat):Int))),(71,.v (.int .i64 ((k5:Nat):Int))),(123,.v (.int .i64 (((((D.f 1).f k5).f 4).l:Nat):Int))),(124,.v (.int .i64 ((aa:Nat):Int))),(284,.v (.int .i64 (((((((D.f 1).f k5).f 4).f aa).f 8).l:Nat):Int))),(285,.v (.int .i64 ((ag:Nat):Int)))]) [0,6,8,10,15,17,34,35,70,71,123,124,284,285] (fun _ _ _=>by kernel_rfl)) ?_
    refine qef (t:=88) (e:=21) (size:=1) (bytes:=4) (len:=(((((D.f 1).f k5).f 4).f aa).f 8).l) (j:=ag) (cs:=fun i=>[.int .i32 (((((((D.f 1).f k5).f 4).f aa).f 8).f i).n)]) (e1:=[(0,.p 0 0),(6,.v (.bool (decide (v ≥ 0)))),(8,.v (.slice ((D.f 1).A) ((D.f 1).l) ((D.f 1).c))),(10,.p 1 0),(15,.v (.slice ((((D.f 1).f k5).f 4).A) ((((D.f 1).f k5).f 4).l) ((((D.f 1).f k5).f 4).c))),(17,.p 2 0),(34,.v (.slice ((((((D.f 1).f k5).f 4).f aa).f 8).A) ((((((D.f 1).f k5).f 4).f aa).f 8).l) ((((((D.f 1).f k5).f 4).f aa).f 8).c))),(36,.v (.int .i32 (((((((D.f 1).f k5).f 4).f aa).f 8).f ag).n))),(70,.v (.int .i64 (((D.f 1).l:Nat):Int))),(71,.v (.int .i64 ((k5:Nat):Int))),(123,.v (.int .i64 (((((D.f 1).f k5).f 4).l:Nat):Int))),(124,.v (.int .i64 ((aa:Nat):Int))),(284,.v (.int .i64 (((((((D.f 1).f k5).f 4).f aa).f 8).l:Nat):Int))),(285,.v (.int .i64 ((ag:Nat):Int)))]) 2 [0,6,8,10,15,17,34,36,70,71,123,124,284,285] (fun _ _ _ _ _=>by kernel_rfl) kz kz aG ao hF kz kz kz fun bb3 oo3 hat3=>?_
    have aS:=g24e ag ao
    exact qbh (f:=33) (vs:=[.int .i32 (((((((D.f 1).f k5).f 4).f aa).f 8).f ag).n)]) 2 [285,0,6,8,10,15,17,34,70,71,123,124,284] (fun _ _ _ _ _ _=>by kernel_rfl) kz Tryz.call33 (fun A cp s w _ _ ho hr=>qbk A cp s (((((((D.f 1).f k5).f 4).f aa).f 8).f ag).n) w ho (by omega))
   refine qa1 (qaG (env':=[(0,.p 0 0),(6,.v (.bool (decide (v ≥ 0)))),(8,.v (.slice ((D.f 1).A) ((D.f 1).l) ((D.f 1).c))),(10,.p 1 0),(15,.v (.slice ((((D.f 1).f k5).f 4).A) ((((D.f 1).f k5).f 4).l) ((((D.f 1).f k5).f 4).c))),(17,.p 2 0),(70,.v (.int .i64 (((D.f 1).l:Nat):Int))),(71,.v (.int .i64 ((k5:Nat):Int))),(123,.v (.int .i64 (((((D.f 1).f k5).f 4).l:Nat):Int))),(124,.v (.int .i64 ((aa:Nat):Int))),(296,.v (.bool (decide (v ≥ 0))))]) [0,6,8,10,15,17,70,71,123,124,296] (fun _ _ _=>by kernel_rfl)) ?_
   refine qfW (b:=decide (v ≥ 0)) (fun _ _ _=>by kernel_rfl) (fun hb=>?_) (fun hb=>?_)
   ·
    refine qbF (e1:=[(0,.p 0 0),(6,.v (.bool (decide (v ≥ 0)))),(8,.v (.slice ((D.f 1).A) ((D.f 1).l) ((D.f 1).c))),(10,.p 1 0),(15,.v (.slice ((((D.f 1).f k5).f 4).A) ((((D.f 1).f k5).f 4).l) ((((D.f 1).f k5).f 4).c))),(17,.p 2 0),(70,.v (.int .i64 (((D.f 1).l:Nat):Int))),(71,.v (.int .i64 ((k5:Nat):Int))),(123,.v (.int .i64 (((((D.f 1).f k5).f 4).l:Nat):Int))),(124,.v (.int .i64 ((aa:Nat):Int)))]) ?_ ?_
    ·
     exact qeW (f1:=44) (vs1:=[.pointer (some ⟨bb2,oo2 + 9,none⟩)]) (r1:=.int .i64 ((((((D.f 1).f k5).f 4).f aa).u.length:Nat):Int)) (f:=43) (vs:=[.int .u32 (IntKind.u32.wrap (0 + (IntKind.u32.wrap ((((((D.f 1).f k5).f 4).f aa).u.length:Nat):Int))))]) 4 7 [0,6,8,10,15,17,70,71,123,124] (fun _ _ _ _ _ _=>by kernel_rfl) kz Tryz.call44 Tryz.call43 (fun w hs=>qeX (F:=Lo F _) ((hat2.one 9 rfl).move hs (lo_M hF) lo_F) (ay.move hs (lo_M hF) lo_F)) (fun A cp s w _ _ ho hr=>by rw [show (IntKind.u32.wrap (0 + (IntKind.u32.wrap ((((((D.f 1).f k5).f 4).f aa).u.length:Nat):Int))):Int) = ((((((D.f 1).f k5).f 4).f aa).u.length:Nat):Int) from qc4 _ g25l]; exact qbm ((((D.f 1).f k5).f 4).f aa).u.length (by have:=g25l; omega) A cp s w ho hr)
    exact qeY (f:=45) 4 [124,0,6,8,10,15,70,71,123] (fun s=>[.pointer (some ⟨bb2,oo2 + 9,none⟩),s]) (fun _ _ _ _ _ _=>by kernel_rfl) kz Tryz.call45 (fun A cp s w hs hA ho hr=>qdn (F:=Lo F _) ((hat2.one 9 rfl).move hs (lo_M hF) lo_F) (ay.move hs (lo_M hF) lo_F) ho (qfs hF hA) g25x hr)
   exact qfX (e1:=[(124,.v (.int .i64 ((aa:Nat):Int))),(0,.p 0 0),(6,.v (.bool (decide (v ≥ 0)))),(8,.v (.slice ((D.f 1).A) ((D.f 1).l) ((D.f 1).c))),(10,.p 1 0),(15,.v (.slice ((((D.f 1).f k5).f 4).A) ((((D.f 1).f k5).f 4).l) ((((D.f 1).f k5).f 4).c))),(70,.v (.int .i64 (((D.f 1).l:Nat):Int))),(71,.v (.int .i64 ((k5:Nat):Int))),(123,.v (.int .i64 (((((D.f 1).f k5).f 4).l:Nat):Int)))]) [124,0,6,8,10,15,70,71,123] (fun _ _ _=>by kernel_rfl) qfQ
  refine qbF (e1:=[(0,.p 0 0),(6,.v (.bool (decide (v ≥ 0)))),(8,.v (.slice ((D.f 1).A) ((D.f 1).l) ((D.f 1).c))),(10,.p 1 0),(70,.v (.int .i64 (((D.f 1).l:Nat):Int))),(71,.v (.int .i64 ((k5:Nat):Int)))]) ?_ ?_
  ·
   refine qa1 (qaG (env':=[(0,.p 0 0),(6,.v (.bool (decide (v ≥ 0)))),(8,.v (.slice ((D.f 1).A) ((D.f 1).l) ((D.f 1).c))),(10,.p 1 0),(37,.v (.int .i32 ((((D.f 1).f k5).f 5).n))),(70,.v (.int .i64 (((D.f 1).l:Nat):Int))),(71,.v (.int .i64 ((k5:Nat):Int)))]) [0,6,8,10,37,70,71] (fun _ _ _=>by kernel_rfl)) ?_
   exact qbh (f:=33) (vs:=[.int .i32 ((((D.f 1).f k5).f 5).n)]) 2 [0,6,8,10,70,71] (fun _ _ _ _ _ _=>by kernel_rfl) kz Tryz.call33 (fun A cp s w _ _ ho hr=>qbk A cp s ((((D.f 1).f k5).f 5).n) w ho (by omega))
  refine qa1 (qaG (env':=[(0,.p 0 0),(6,.v (.bool (decide (v ≥ 0)))),(8,.v (.slice ((D.f 1).A) ((D.f 1).l) ((D.f 1).c))),(10,.p 1 0),(70,.v (.int .i64 (((D.f 1).l:Nat):Int))),(71,.v (.int .i64 ((k5:Nat):Int))),(318,.v (.bool (decide (v ≥ 0))))]) [0,6,8,10,70,71,318] (fun _ _ _=>by kernel_rfl)) ?_
  refine qfW (b:=decide (v ≥ 0)) (fun _ _ _=>by kernel_rfl) (fun hb=>?_) (fun hb=>?_)
  ·
   refine qbF (e1:=[(0,.p 0 0),(6,.v (.bool (decide (v ≥ 0)))),(8,.v (.slice ((D.f 1).A) ((D.f 1).l) ((D.f 1).c))),(10,.p 1 0),(70,.v (.int .i64 (((D.f 1).l:Nat):Int))),(71,.v (.int .i64 ((k5:Nat):Int)))]) ?_ ?_
   ·
    exact qeW (f1:=44) (vs1:=[.pointer (some ⟨bb1,oo1 + 21,none⟩)]) (r1:=.int .i64 ((((D.f 1).f k5).u.length:Nat):Int)) (f:=43) (vs:=[.int .u32 (IntKind.u32.wrap (0 + (IntKind.u32.wrap ((((D.f 1).f k5).u.length:Nat):Int))))]) 4 7 [0,6,8,10,70,71] (fun _ _ _ _ _ _=>by kernel_rfl) kz Tryz.call44 Tryz.call43 (fun w hs=>qeX (F:=Lo F _) ((hat1.one 21 rfl).move hs (lo_M hF) lo_F) (aw.move hs (lo_M hF) lo_F)) (fun A cp s w _ _ ho hr=>by rw [show (IntKind.u32.wrap (0 + (IntKind.u32.wrap ((((D.f 1).f k5).u.length:Nat):Int))):Int) = ((((D.f 1).f k5).u.length:Nat):Int) from qc4 _ g13l]; exact qbm ((D.f 1).f k5).u.length (by have:=g13l; omega) A cp s w ho hr)
   exact qeY (f:=45) 4 [71,0,6,8,70] (fun s=>[.pointer (some ⟨bb1,oo1 + 21,none⟩),s]) (fun _ _ _ _ _ _=>by kernel_rfl) kz Tryz.call45 (fun A cp s w hs hA ho hr=>qdn (F:=Lo F _) ((hat1.one 21 rfl).move hs (lo_M hF) lo_F) (aw.move hs (lo_M hF) lo_F) ho (qfs hF hA) g13x hr)
  exact qfX (e1:=[(71,.v (.int .i64 ((k5:Nat):Int))),(0,.p 0 0),(6,.v (.bool (decide (v ≥ 0)))),(8,.v (.slice ((D.f 1).A) ((D.f 1).l) ((D.f 1).c))),(70,.v (.int .i64 (((D.f 1).l:Nat):Int)))]) [71,0,6,8,70] (fun _ _ _=>by kernel_rfl) qfQ
 refine qd7 (e1:=[(0,.p 0 0),(6,.v (.bool (decide (v ≥ 0))))]) ?_ ?_
 ·
  refine qa1 (qaG (env':=[(0,.p 0 0),(6,.v (.bool (decide (v ≥ 0)))),(38,.v (.pointer ((D.f 2).A)))]) [0,6,38] (fun _ _ _=>by kernel_rfl)) ?_
  refine qa1 (qaG (env':=[(0,.p 0 0),(6,.v (.bool (decide (v ≥ 0)))),(38,.v (.pointer ((D.f 2).A))),(338,.v (.bool (((D.f 2).A).isNone)))]) [0,6,38,338] (fun _ _ _=>by kernel_rfl)) ?_
  refine qfn (b:=((D.f 2).A).isNone) (fun _ _ _=>by kernel_rfl) (fun hb=>?_) (fun hb=>?_)
  ·
   exact qj0 [0,6] 339 340 341 22 (cs:=[.int .u8 255]) (be 1 (-1)) kz (fun _ _ _=>by kernel_rfl) (fun _ _ _=>by kernel_rfl) (fun _ _ _ _=>by kernel_rfl) (fun _ _ _ _ _ _ _=>by kernel_rfl) kz kz rfl
  obtain ⟨ap,ar,av,ah,au⟩:∃ b o,(D.f 2).A = some ⟨b,o,none⟩ ∧ AtF _ _ b o [.string (((D.f 2).f 0).s),.int .i32 (((D.f 2).f 1).n),.map ((D.f 2).m)] ∧ qax _ _ (D.f 2):=by
   cases hq_:(D.f 2).A with
   | none=>rw [hq_] at hb; cases hb
   | some ad=>obtain ⟨⟨b',o',rfl,h_⟩,h2_⟩:=g3 ad hq_; exact ⟨b',o',rfl,h_,h2_⟩
  refine qkJ (e1:=[(0,.p 0 0),(6,.v (.bool (decide (v ≥ 0)))),(38,.p 1 0)]) 38 av ah hF kz kz (fun _ _ _=>by kernel_rfl) (fun _ _ _=>by kernel_rfl) kz ?_
  unfold qax at au
  obtain ⟨aH,aT,aA,g43l,g43x,_⟩:=au
  refine qbF (e1:=[(0,.p 0 0),(6,.v (.bool (decide (v ≥ 0)))),(38,.p 1 0)]) ?_ ?_
  ·
   exact qj0 [0,6,38] 342 343 344 22 (cs:=[.int .u8 1]) (be 1 1) kz (fun _ _ _=>by kernel_rfl) (fun _ _ _=>by kernel_rfl) (fun _ _ _ _=>by kernel_rfl) (fun _ _ _ _ _ _ _=>by kernel_rfl) kz kz rfl
  refine qbF (e1:=[(0,.p 0 0),(6,.v (.bool (decide (v ≥ 0)))),(38,.p 1 0)]) ?_ ?_
  ·
   refine qa1 (qaG (env':=[(0,.p 0 0),(6,.v (.bool (decide (v ≥ 0)))),(38,.p 1 0),(39,.v (.string (((D.f 2).f 0).s)))]) [0,6,38,39] (fun _ _ _=>by kernel_rfl)) ?_
   refine qa1 (qaG (env':=[(0,.p 0 0),(6,.v (.bool (decide (v ≥ 0)))),(38,.p 1 0),(39,.v (.string (((D.f 2).f 0).s))),(349,.v (.bool (decide (v ≥ 0))))]) [0,6,38,39,349] (fun _ _ _=>by kernel_rfl)) ?_
   refine qfn (b:=decide (v ≥ 0)) (fun _ _ _=>by kernel_rfl) (fun hb=>?_) (fun hb=>?_)
   ·
    exact qbh (f:=46) (vs:=[.string (((D.f 2).f 0).s)]) 2 [0,6,38] (fun _ _ _ _ _ _=>by kernel_rfl) kz Tryz.call46 (fun A cp s w _ _ ho hr=>qcG ((D.f 2).f 0).s A cp s w ho aH hr)
   exact qbh (f:=47) (vs:=[.string (((D.f 2).f 0).s)]) 2 [0,6,38] (fun _ _ _ _ _ _=>by kernel_rfl) kz Tryz.call47 (fun A cp s w _ _ ho hr=>qew ((D.f 2).f 0).s A cp s w ho hr)
  refine qbF (e1:=[(0,.p 0 0),(6,.v (.bool (decide (v ≥ 0)))),(38,.p 1 0)]) ?_ ?_
  ·
   refine qa1 (qaG (env':=[(0,.p 0 0),(6,.v (.bool (decide (v ≥ 0)))),(38,.p 1 0),(40,.v (.int .i32 (((D.f 2).f 1).n)))]) [0,6,38,40] (fun _ _ _=>by kernel_rfl)) ?_
   exact qbh (f:=33) (vs:=[.int .i32 (((D.f 2).f 1).n)]) 2 [0,6,38] (fun _ _ _ _ _ _=>by kernel_rfl) kz Tryz.call33 (fun A cp s w _ _ ho hr=>qbk A cp s (((D.f 2).f 1).n) w ho (by omega))
  refine qa1 (qaG (env':=[(0,.p 0 0),(6,.v (.bool (decide (v ≥ 0)))),(38,.p 1 0),(363,.v (.bool (decide (v ≥ 0))))]) [0,6,38,363] (fun _ _ _=>by kernel_rfl)) ?_
  refine qfW (b:=decide (v ≥ 0)) (fun _ _ _=>by kernel_rfl) (fun hb=>?_) (fun hb=>?_)
  ·
   refine qbF (e1:=[(0,.p 0 0),(6,.v (.bool (decide (v ≥ 0)))),(38,.p 1 0)]) ?_ ?_
   ·
    exact qeW (f1:=44) (vs1:=[.pointer (some ⟨ap,ar + 2,none⟩)]) (r1:=.int .i64 (((D.f 2).u.length:Nat):Int)) (f:=43) (vs:=[.int .u32 (IntKind.u32.wrap (0 + (IntKind.u32.wrap (((D.f 2).u.length:Nat):Int))))]) 4 7 [0,6,38] (fun _ _ _ _ _ _=>by kernel_rfl) kz Tryz.call44 Tryz.call43 (fun w hs=>qeX (F:=Lo F _) ((ah.one 2 rfl).move hs (lo_M hF) lo_F) (aA.move hs (lo_M hF) lo_F)) (fun A cp s w _ _ ho hr=>by rw [show (IntKind.u32.wrap (0 + (IntKind.u32.wrap (((D.f 2).u.length:Nat):Int))):Int) = (((D.f 2).u.length:Nat):Int) from qc4 _ g43l]; exact qbm (D.f 2).u.length (by have:=g43l; omega) A cp s w ho hr)
   exact qeY (f:=45) 4 [0,6] (fun s=>[.pointer (some ⟨ap,ar + 2,none⟩),s]) (fun _ _ _ _ _ _=>by kernel_rfl) kz Tryz.call45 (fun A cp s w hs hA ho hr=>qdn (F:=Lo F _) ((ah.one 2 rfl).move hs (lo_M hF) lo_F) (aA.move hs (lo_M hF) lo_F) ho (qfs hF hA) g43x hr)
  exact qfX (e1:=[(0,.p 0 0),(6,.v (.bool (decide (v ≥ 0))))]) [0,6] (fun _ _ _=>by kernel_rfl) qfQ
 refine qd7 (e1:=[]) ?_ ?_
 ·
  refine qa1 (qaG (env':=[(0,.p 0 0),(377,.v (.bool (decide (v ≥ 0))))]) [0,377] (fun _ _ _=>by kernel_rfl)) ?_
  refine qfW (b:=decide (v ≥ 0)) (fun _ _ _=>by kernel_rfl) (fun hb=>?_) (fun hb=>?_)
  ·
   refine qbF (e1:=[(0,.p 0 0)]) ?_ ?_
   ·
    exact qeW (f1:=44) (vs1:=[.pointer (some ⟨b,o + 4,none⟩)]) (r1:=.int .i64 ((D.u.length:Nat):Int)) (f:=43) (vs:=[.int .u32 (IntKind.u32.wrap (0 + (IntKind.u32.wrap ((D.u.length:Nat):Int))))]) 4 7 [0] (fun _ _ _ _ _ _=>by kernel_rfl) kz Tryz.call44 Tryz.call43 (fun w hs=>qeX (F:=Lo F _) ((hat.one 4 rfl).move hs (lo_M hF) lo_F) (g4.move hs (lo_M hF) lo_F)) (fun A cp s w _ _ ho hr=>by rw [show (IntKind.u32.wrap (0 + (IntKind.u32.wrap ((D.u.length:Nat):Int))):Int) = ((D.u.length:Nat):Int) from qc4 _ g4l]; exact qbm D.u.length (by have:=g4l; omega) A cp s w ho hr)
   exact qeY (f:=45) 4 [] (fun s=>[.pointer (some ⟨b,o + 4,none⟩),s]) (fun _ _ _ _ _ _=>by kernel_rfl) kz Tryz.call45 (fun A cp s w hs hA ho hr=>qdn (F:=Lo F _) ((hat.one 4 rfl).move hs (lo_M hF) lo_F) (g4.move hs (lo_M hF) lo_F) ho (qfs hF hA) g4x hr)
  exact qfX (e1:=[]) [] (fun _ _ _=>by kernel_rfl) qfQ
 exact qkc (fun _ _ _=>by kernel_rfl)
def qaD (D:DV) (T:Tree):Prop:=((D.f 0).n = IntKind.i16.wrap (T.at_ 0).N) ∧ ((D.f 1).n = IntKind.i32.wrap (T.at_ 1).N) ∧ ((D.f 2).n = IntKind.i32.wrap (T.at_ 2).N) ∧ ((D.f 3).n = IntKind.i32.wrap (T.at_ 3).N) ∧ ((D.f 4).A.isNone = (T.at_ 4).null ∧ (D.f 4).l = (lst (T.at_ 4)).length ∧ ∀ i,i < (D.f 4).l → ((D.f 4).f i).n = IntKind.i32.wrap ((lst (T.at_ 4)).getD i .zero).N) ∧ ((D.f 5).A.isNone = (T.at_ 5).null ∧ (D.f 5).l = (lst (T.at_ 5)).length ∧ ∀ i,i < (D.f 5).l → ((D.f 5).f i).n = IntKind.i32.wrap ((lst (T.at_ 5)).getD i .zero).N) ∧ ((D.f 6).A.isNone = (T.at_ 6).null ∧ (D.f 6).l = (lst (T.at_ 6)).length ∧ ∀ i,i < (D.f 6).l → ((D.f 6).f i).n = IntKind.i32.wrap ((lst (T.at_ 6)).getD i .zero).N) ∧ ((D.f 7).A.isNone = (T.at_ 7).null ∧ (D.f 7).l = (lst (T.at_ 7)).length ∧ ∀ i,i < (D.f 7).l → ((D.f 7).f i).n = IntKind.i32.wrap ((lst (T.at_ 7)).getD i .zero).N) ∧ ((D.f 8).A.isNone = (T.at_ 8).null ∧ (D.f 8).l = (lst (T.at_ 8)).length ∧ ∀ i,i < (D.f 8).l → ((D.f 8).f i).n = IntKind.i32.wrap ((lst (T.at_ 8)).getD i .zero).N) ∧ D.u = T.U ∧ True
def qaO (D:DV) (T:Tree):Prop:=((D.f 0).n = IntKind.i16.wrap (T.at_ 0).N) ∧ ((D.f 1).s = bs (qdf (T.at_ 1)) ∧ (D.f 1).A.isNone = (T.at_ 1).null) ∧ ((D.f 2).o = qcL (T.at_ 2).S) ∧ ((D.f 3).b = decide ((T.at_ 3).N % 2 = 1)) ∧ ((D.f 4).A.isNone = (T.at_ 4).null ∧ (D.f 4).l = (lst (T.at_ 4)).length ∧ ∀ i,i < (D.f 4).l → qaD ((D.f 4).f i) ((lst (T.at_ 4)).getD i .zero)) ∧ ((D.f 5).n = IntKind.i32.wrap (T.at_ 5).N) ∧ D.u = T.U ∧ True
def qaP (D:DV) (T:Tree):Prop:=((D.f 0).s = bs (T.at_ 0).S) ∧ ((D.f 1).n = IntKind.i32.wrap (T.at_ 1).N) ∧ D.u = T.U ∧ True
def qbc (D:DV) (T:Tree):Prop:=((D.f 0).n = IntKind.i32.wrap (T.at_ 0).N) ∧ ((D.f 1).A.isNone = (T.at_ 1).null ∧ (D.f 1).l = (lst (T.at_ 1)).length ∧ ∀ i,i < (D.f 1).l → qaO ((D.f 1).f i) ((lst (T.at_ 1)).getD i .zero)) ∧ ((D.f 2).A.isNone = (T.at_ 2).null ∧ ((T.at_ 2).null = false → qaP (D.f 2) (T.at_ 2))) ∧ D.u = T.U ∧ True
def qa8 (v:Int) (T:Tree):Bs:=(be 4 ((IntKind.i32.wrap (T.at_ 0).N))) ++ (((if (decide (v ≥ 0)) = true then (uv ((lst (T.at_ 1)).length + 1)) else (be 4 (lst (T.at_ 1)).length)) ++ ((lst (T.at_ 1)).flatMap fun Ek5=>(be 2 ((IntKind.i16.wrap (Ek5.at_ 0).N))) ++ ((if (decide (v ≥ 0)) = true then (if (Ek5.at_ 1).null = true then uv 0 else uv ((qdf (Ek5.at_ 1)).length + 1) ++ (qdf (Ek5.at_ 1))) else (if (Ek5.at_ 1).null = true then be 2 (-1) else be 2 (qdf (Ek5.at_ 1)).length ++ (qdf (Ek5.at_ 1)))) ++ (((qcL (Ek5.at_ 2).S)) ++ (([by8 (if (decide ((Ek5.at_ 3).N % 2 = 1)) then 1 else 0)]) ++ (((if (decide (v ≥ 0)) = true then (uv ((lst (Ek5.at_ 4)).length + 1)) else (be 4 (lst (Ek5.at_ 4)).length)) ++ ((lst (Ek5.at_ 4)).flatMap fun aa=>(be 2 ((IntKind.i16.wrap (aa.at_ 0).N))) ++ ((be 4 ((IntKind.i32.wrap (aa.at_ 1).N))) ++ ((be 4 ((IntKind.i32.wrap (aa.at_ 2).N))) ++ ((be 4 ((IntKind.i32.wrap (aa.at_ 3).N))) ++ (((if (decide (v ≥ 0)) = true then (uv ((lst (aa.at_ 4)).length + 1)) else (be 4 (lst (aa.at_ 4)).length)) ++ ((lst (aa.at_ 4)).flatMap fun ab=>be 4 ((IntKind.i32.wrap ab.N)))) ++ (((if (decide (v ≥ 0)) = true then (uv ((lst (aa.at_ 5)).length + 1)) else (be 4 (lst (aa.at_ 5)).length)) ++ ((lst (aa.at_ 5)).flatMap fun ac=>be 4 ((IntKind.i32.wrap ac.N)))) ++ (((if (decide (v ≥ 0)) = true then (if (aa.at_ 6).null = true then uv 0 else uv ((lst (aa.at_ 6)).length + 1)) else (if (aa.at_ 6).null = true then be 4 (-1) else be 4 (lst (aa.at_ 6)).length)) ++ ((lst (aa.at_ 6)).flatMap fun ae=>be 4 ((IntKind.i32.wrap ae.N)))) ++ (((if (decide (v ≥ 0)) = true then (if (aa.at_ 7).null = true then uv 0 else uv ((lst (aa.at_ 7)).length + 1)) else (if (aa.at_ 7).null = true then be 4 (-1) else be 4 (lst (aa.at_ 7)).length)) ++ ((lst (aa.at_ 7)).flatMap fun af=>be 4 ((IntKind.i32.wrap af.N)))) ++ (((if (decide (v ≥ 0)) = true then (uv ((lst (aa.at_ 8)).length + 1)) else (be 4 (lst (aa.at_ 8)).length)) ++ ((lst (aa.at_ 8)).flatMap fun ag=>be 4 ((IntKind.i32.wrap ag.N)))) ++ (if (decide (v ≥ 0)) = true then (uv aa.U.length) ++ (qbM aa.U) else []))))))))))) ++ ((be 4 ((IntKind.i32.wrap (Ek5.at_ 5).N))) ++ (if (decide (v ≥ 0)) = true then (uv Ek5.U.length) ++ (qbM Ek5.U) else [])))))))) ++ ((if ((T.at_ 2).null) = true then (be 1 (-1)) else ((be 1 1) ++ ((if (decide (v ≥ 0)) = true then (uv (((T.at_ 2).at_ 0).S.length + 1) ++ ((T.at_ 2).at_ 0).S) else (be 2 ((T.at_ 2).at_ 0).S.length ++ ((T.at_ 2).at_ 0).S)) ++ ((be 4 ((IntKind.i32.wrap ((T.at_ 2).at_ 1).N))) ++ (if (decide (v ≥ 0)) = true then (uv (T.at_ 2).U.length) ++ (qbM (T.at_ 2).U) else []))))) ++ ((if (decide (v ≥ 0)) = true then (uv T.U.length) ++ (qbM T.U) else []) ++ ([]))))
theorem qcv (v:Int) (D:DV) (T:Tree) (h:qbc D T):qaF v D = qa8 v T:=by
 unfold qbc at h
 obtain ⟨au,⟨r45n,r45l,r45e⟩,⟨r46n,r46e⟩,av,_⟩:=h
 unfold qaF qa8
 have aD:((List.range (D.f 1).l).flatMap fun k5=>(be 2 ((((D.f 1).f k5).f 0).n)) ++ ((if (decide (v ≥ 0)) = true then (if (((D.f 1).f k5).f 1).A.isNone = true then uv 0 else uv ((((D.f 1).f k5).f 1).s.size + 1) ++ sb (((D.f 1).f k5).f 1).s) else (if (((D.f 1).f k5).f 1).A.isNone = true then be 2 (-1) else be 2 (((D.f 1).f k5).f 1).s.size ++ sb (((D.f 1).f k5).f 1).s)) ++ (((((D.f 1).f k5).f 2).o) ++ (([by8 (if (((D.f 1).f k5).f 3).b then 1 else 0)]) ++ (((if (decide (v ≥ 0)) = true then (uv ((((D.f 1).f k5).f 4).l + 1)) else (be 4 (((D.f 1).f k5).f 4).l)) ++ ((List.range (((D.f 1).f k5).f 4).l).flatMap fun ab=>(be 2 ((((((D.f 1).f k5).f 4).f ab).f 0).n)) ++ ((be 4 ((((((D.f 1).f k5).f 4).f ab).f 1).n)) ++ ((be 4 ((((((D.f 1).f k5).f 4).f ab).f 2).n)) ++ ((be 4 ((((((D.f 1).f k5).f 4).f ab).f 3).n)) ++ (((if (decide (v ≥ 0)) = true then (uv ((((((D.f 1).f k5).f 4).f ab).f 4).l + 1)) else (be 4 (((((D.f 1).f k5).f 4).f ab).f 4).l)) ++ ((List.range (((((D.f 1).f k5).f 4).f ab).f 4).l).flatMap fun ai=>be 4 (((((((D.f 1).f k5).f 4).f ab).f 4).f ai).n))) ++ (((if (decide (v ≥ 0)) = true then (uv ((((((D.f 1).f k5).f 4).f ab).f 5).l + 1)) else (be 4 (((((D.f 1).f k5).f 4).f ab).f 5).l)) ++ ((List.range (((((D.f 1).f k5).f 4).f ab).f 5).l).flatMap fun aj=>be 4 (((((((D.f 1).f k5).f 4).f ab).f 5).f aj).n))) ++ (((if (decide (v ≥ 0)) = true then (if ((((((D.f 1).f k5).f 4).f ab).f 6).A).isNone = true then uv 0 else uv ((((((D.f 1).f k5).f 4).f ab).f 6).l + 1)) else (if ((((((D.f 1).f k5).f 4).f ab).f 6).A).isNone = true then be 4 (-1) else be 4 (((((D.f 1).f k5).f 4).f ab).f 6).l)) ++ ((List.range (((((D.f 1).f k5).f 4).f ab).f 6).l).flatMap fun ak=>be 4 (((((((D.f 1).f k5).f 4).f ab).f 6).f ak).n))) ++ (((if (decide (v ≥ 0)) = true then (if ((((((D.f 1).f k5).f 4).f ab).f 7).A).isNone = true then uv 0 else uv ((((((D.f 1).f k5).f 4).f ab).f 7).l + 1)) else (if ((((((D.f 1).f k5).f 4).f ab).f 7).A).isNone = true then be 4 (-1) else be 4 (((((D.f 1).f k5).f 4).f ab).f 7).l)) ++ ((List.range (((((D.f 1).f k5).f 4).f ab).f 7).l).flatMap fun al=>be 4 (((((((D.f 1).f k5).f 4).f ab).f 7).f al).n))) ++ (((if (decide (v ≥ 0)) = true then (uv ((((((D.f 1).f k5).f 4).f ab).f 8).l + 1)) else (be 4 (((((D.f 1).f k5).f 4).f ab).f 8).l)) ++ ((List.range (((((D.f 1).f k5).f 4).f ab).f 8).l).flatMap fun am=>be 4 (((((((D.f 1).f k5).f 4).f ab).f 8).f am).n))) ++ (if (decide (v ≥ 0)) = true then (uv ((((D.f 1).f k5).f 4).f ab).u.length) ++ (qbM ((((D.f 1).f k5).f 4).f ab).u) else []))))))))))) ++ ((be 4 ((((D.f 1).f k5).f 5).n)) ++ (if (decide (v ≥ 0)) = true then (uv ((D.f 1).f k5).u.length) ++ (qbM ((D.f 1).f k5).u) else []))))))) = ((lst (T.at_ 1)).flatMap fun Ek5=>(be 2 ((IntKind.i16.wrap (Ek5.at_ 0).N))) ++ ((if (decide (v ≥ 0)) = true then (if (Ek5.at_ 1).null = true then uv 0 else uv ((qdf (Ek5.at_ 1)).length + 1) ++ (qdf (Ek5.at_ 1))) else (if (Ek5.at_ 1).null = true then be 2 (-1) else be 2 (qdf (Ek5.at_ 1)).length ++ (qdf (Ek5.at_ 1)))) ++ (((qcL (Ek5.at_ 2).S)) ++ (([by8 (if (decide ((Ek5.at_ 3).N % 2 = 1)) then 1 else 0)]) ++ (((if (decide (v ≥ 0)) = true then (uv ((lst (Ek5.at_ 4)).length + 1)) else (be 4 (lst (Ek5.at_ 4)).length)) ++ ((lst (Ek5.at_ 4)).flatMap fun aa=>(be 2 ((IntKind.i16.wrap (aa.at_ 0).N))) ++ ((be 4 ((IntKind.i32.wrap (aa.at_ 1).N))) ++ ((be 4 ((IntKind.i32.wrap (aa.at_ 2).N))) ++ ((be 4 ((IntKind.i32.wrap (aa.at_ 3).N))) ++ (((if (decide (v ≥ 0)) = true then (uv ((lst (aa.at_ 4)).length + 1)) else (be 4 (lst (aa.at_ 4)).length)) ++ ((lst (aa.at_ 4)).flatMap fun ac=>be 4 ((IntKind.i32.wrap ac.N)))) ++ (((if (decide (v ≥ 0)) = true then (uv ((lst (aa.at_ 5)).length + 1)) else (be 4 (lst (aa.at_ 5)).length)) ++ ((lst (aa.at_ 5)).flatMap fun ae=>be 4 ((IntKind.i32.wrap ae.N)))) ++ (((if (decide (v ≥ 0)) = true then (if (aa.at_ 6).null = true then uv 0 else uv ((lst (aa.at_ 6)).length + 1)) else (if (aa.at_ 6).null = true then be 4 (-1) else be 4 (lst (aa.at_ 6)).length)) ++ ((lst (aa.at_ 6)).flatMap fun af=>be 4 ((IntKind.i32.wrap af.N)))) ++ (((if (decide (v ≥ 0)) = true then (if (aa.at_ 7).null = true then uv 0 else uv ((lst (aa.at_ 7)).length + 1)) else (if (aa.at_ 7).null = true then be 4 (-1) else be 4 (lst (aa.at_ 7)).length)) ++ ((lst (aa.at_ 7)).flatMap fun ag=>be 4 ((IntKind.i32.wrap ag.N)))) ++ (((if (decide (v ≥ 0)) = true then (uv ((lst (aa.at_ 8)).length + 1)) else (be 4 (lst (aa.at_ 8)).length)) ++ ((lst (aa.at_ 8)).flatMap fun ah=>be 4 ((IntKind.i32.wrap ah.N)))) ++ (if (decide (v ≥ 0)) = true then (uv aa.U.length) ++ (qbM aa.U) else []))))))))))) ++ ((be 4 ((IntKind.i32.wrap (Ek5.at_ 5).N))) ++ (if (decide (v ≥ 0)) = true then (uv Ek5.U.length) ++ (qbM Ek5.U) else []))))))):=qdp r45l fun k5 hk=>by
  have ap:=r45e k5 hk
  generalize (lst (T.at_ 1)).getD k5 .zero = Ek5 at ap ⊢
  unfold qaO at ap
  obtain ⟨aE,⟨aF,r51n⟩,aG,aH,⟨r54n,r54l,r54e⟩,aI,aJ,_⟩:=ap
  have aK:((List.range (((D.f 1).f k5).f 4).l).flatMap fun ab=>(be 2 ((((((D.f 1).f k5).f 4).f ab).f 0).n)) ++ ((be 4 ((((((D.f 1).f k5).f 4).f ab).f 1).n)) ++ ((be 4 ((((((D.f 1).f k5).f 4).f ab).f 2).n)) ++ ((be 4 ((((((D.f 1).f k5).f 4).f ab).f 3).n)) ++ (((if (decide (v ≥ 0)) = true then (uv ((((((D.f 1).f k5).f 4).f ab).f 4).l + 1)) else (be 4 (((((D.f 1).f k5).f 4).f ab).f 4).l)) ++ ((List.range (((((D.f 1).f k5).f 4).f ab).f 4).l).flatMap fun ai=>be 4 (((((((D.f 1).f k5).f 4).f ab).f 4).f ai).n))) ++ (((if (decide (v ≥ 0)) = true then (uv ((((((D.f 1).f k5).f 4).f ab).f 5).l + 1)) else (be 4 (((((D.f 1).f k5).f 4).f ab).f 5).l)) ++ ((List.range (((((D.f 1).f k5).f 4).f ab).f 5).l).flatMap fun aj=>be 4 (((((((D.f 1).f k5).f 4).f ab).f 5).f aj).n))) ++ (((if (decide (v ≥ 0)) = true then (if ((((((D.f 1).f k5).f 4).f ab).f 6).A).isNone = true then uv 0 else uv ((((((D.f 1).f k5).f 4).f ab).f 6).l + 1)) else (if ((((((D.f 1).f k5).f 4).f ab).f 6).A).isNone = true then be 4 (-1) else be 4 (((((D.f 1).f k5).f 4).f ab).f 6).l)) ++ ((List.range (((((D.f 1).f k5).f 4).f ab).f 6).l).flatMap fun ak=>be 4 (((((((D.f 1).f k5).f 4).f ab).f 6).f ak).n))) ++ (((if (decide (v ≥ 0)) = true then (if ((((((D.f 1).f k5).f 4).f ab).f 7).A).isNone = true then uv 0 else uv ((((((D.f 1).f k5).f 4).f ab).f 7).l + 1)) else (if ((((((D.f 1).f k5).f 4).f ab).f 7).A).isNone = true then be 4 (-1) else be 4 (((((D.f 1).f k5).f 4).f ab).f 7).l)) ++ ((List.range (((((D.f 1).f k5).f 4).f ab).f 7).l).flatMap fun al=>be 4 (((((((D.f 1).f k5).f 4).f ab).f 7).f al).n))) ++ (((if (decide (v ≥ 0)) = true then (uv ((((((D.f 1).f k5).f 4).f ab).f 8).l + 1)) else (be 4 (((((D.f 1).f k5).f 4).f ab).f 8).l)) ++ ((List.range (((((D.f 1).f k5).f 4).f ab).f 8).l).flatMap fun am=>be 4 (((((((D.f 1).f k5).f 4).f ab).f 8).f am).n))) ++ (if (decide (v ≥ 0)) = true then (uv ((((D.f 1).f k5).f 4).f ab).u.length) ++ (qbM ((((D.f 1).f k5).f 4).f ab).u) else [])))))))))) = ((lst (Ek5.at_ 4)).flatMap fun aa=>(be 2 ((IntKind.i16.wrap (aa.at_ 0).N))) ++ ((be 4 ((IntKind.i32.wrap (aa.at_ 1).N))) ++ ((be 4 ((IntKind.i32.wrap (aa.at_ 2).N))) ++ ((be 4 ((IntKind.i32.wrap (aa.at_ 3).N))) ++ (((if (decide (v ≥ 0)) = true then (uv ((lst (aa.at_ 4)).length + 1)) else (be 4 (lst (aa.at_ 4)).length)) ++ ((lst (aa.at_ 4)).flatMap fun ac=>be 4 ((IntKind.i32.wrap ac.N)))) ++ (((if (decide (v ≥ 0)) = true then (uv ((lst (aa.at_ 5)).length + 1)) else (be 4 (lst (aa.at_ 5)).length)) ++ ((lst (aa.at_ 5)).flatMap fun ae=>be 4 ((IntKind.i32.wrap ae.N)))) ++ (((if (decide (v ≥ 0)) = true then (if (aa.at_ 6).null = true then uv 0 else uv ((lst (aa.at_ 6)).length + 1)) else (if (aa.at_ 6).null = true then be 4 (-1) else be 4 (lst (aa.at_ 6)).length)) ++ ((lst (aa.at_ 6)).flatMap fun af=>be 4 ((IntKind.i32.wrap af.N)))) ++ (((if (decide (v ≥ 0)) = true then (if (aa.at_ 7).null = true then uv 0 else uv ((lst (aa.at_ 7)).length + 1)) else (if (aa.at_ 7).null = true then be 4 (-1) else be 4 (lst (aa.at_ 7)).length)) ++ ((lst (aa.at_ 7)).flatMap fun ag=>be 4 ((IntKind.i32.wrap ag.N)))) ++ (((if (decide (v ≥ 0)) = true then (uv ((lst (aa.at_ 8)).length + 1)) else (be 4 (lst (aa.at_ 8)).length)) ++ ((lst (aa.at_ 8)).flatMap fun ah=>be 4 ((IntKind.i32.wrap ah.N)))) ++ (if (decide (v ≥ 0)) = true then (uv aa.U.length) ++ (qbM aa.U) else [])))))))))):=qdp r54l fun ab hk=>by
   have ar:=r54e ab hk
   generalize (lst (Ek5.at_ 4)).getD ab .zero = aa at ar ⊢
   unfold qaD at ar
   obtain ⟨aL,aM,aN,aO,⟨r63n,r63l,r63e⟩,⟨r64n,r64l,r64e⟩,⟨r65n,r65l,r65e⟩,⟨r66n,r66l,r66e⟩,⟨r67n,r67l,r67e⟩,aP,_⟩:=ar
   have aQ:((List.range (((((D.f 1).f k5).f 4).f ab).f 4).l).flatMap fun ai=>be 4 (((((((D.f 1).f k5).f 4).f ab).f 4).f ai).n)) = ((lst (aa.at_ 4)).flatMap fun ac=>be 4 ((IntKind.i32.wrap ac.N))):=qdp r63l fun ai hk=>by
    have aw:=r63e ai hk
    generalize (lst (aa.at_ 4)).getD ai .zero = ac at aw ⊢
    simp only [aw,qf6,qcX]
   have aR:((List.range (((((D.f 1).f k5).f 4).f ab).f 5).l).flatMap fun aj=>be 4 (((((((D.f 1).f k5).f 4).f ab).f 5).f aj).n)) = ((lst (aa.at_ 5)).flatMap fun ae=>be 4 ((IntKind.i32.wrap ae.N))):=qdp r64l fun aj hk=>by
    have ax:=r64e aj hk
    generalize (lst (aa.at_ 5)).getD aj .zero = ae at ax ⊢
    simp only [ax,qf6,qcX]
   have aS:((List.range (((((D.f 1).f k5).f 4).f ab).f 6).l).flatMap fun ak=>be 4 (((((((D.f 1).f k5).f 4).f ab).f 6).f ak).n)) = ((lst (aa.at_ 6)).flatMap fun af=>be 4 ((IntKind.i32.wrap af.N))):=qdp r65l fun ak hk=>by
    have ay:=r65e ak hk
    generalize (lst (aa.at_ 6)).getD ak .zero = af at ay ⊢
    simp only [ay,qf6,qcX]
   have aT:((List.range (((((D.f 1).f k5).f 4).f ab).f 7).l).flatMap fun al=>be 4 (((((((D.f 1).f k5).f 4).f ab).f 7).f al).n)) = ((lst (aa.at_ 7)).flatMap fun ag=>be 4 ((IntKind.i32.wrap ag.N))):=qdp r66l fun al hk=>by
    have aA:=r66e al hk
    generalize (lst (aa.at_ 7)).getD al .zero = ag at aA ⊢
    simp only [aA,qf6,qcX]
   have aU:((List.range (((((D.f 1).f k5).f 4).f ab).f 8).l).flatMap fun am=>be 4 (((((((D.f 1).f k5).f 4).f ab).f 8).f am).n)) = ((lst (aa.at_ 8)).flatMap fun ah=>be 4 ((IntKind.i32.wrap ah.N))):=qdp r67l fun am hk=>by
    have aB:=r67e am hk
    generalize (lst (aa.at_ 8)).getD am .zero = ah at aB ⊢
    simp only [aB,qf6,qcX]
   rw [aQ,aR,aS,aT,aU]
   simp only [aL,aM,aN,aO,r63n,r63l,r64n,r64l,r65n,r65l,r66n,r66l,r67n,r67l,aP,qf6,qcX]
  rw [aK]
  simp only [aE,aF,r51n,aG,aH,r54n,r54l,aI,aJ,qf6,qcX]
 rw [aD]
 cases ao:(T.at_ 2).null with
 | true=>simp only [au,r45n,r45l,r46n,av,ao,if_true,qf6,qcX]
 | false =>
  have aC:=r46e ao
  unfold qaP at aC
  obtain ⟨aV,aW,aX,_⟩:=aC
  simp only [au,r45n,r45l,r46n,av,aV,aW,aX,ao,Bool.false_eq_true,if_false,qf6,qcX]
theorem qeC {v:Int} {d:Nat} {l:List Fld} {t:Tree} {i:Nat} {x1 x2 x3 x5 x6:Int} {s:List Fld} (h:l[i]? = some (.mk 11 x1 x2 x3 (-1) x5 x6 s)) :
  ((fitT v (d + 1) l t).at_ i).null = Fld.nul (.mk 11 x1 x2 x3 (-1) x5 x6 s) v (t.at_ i) ∧
  lst ((fitT v (d + 1) l t).at_ i) = (if Fld.nul (.mk 11 x1 x2 x3 (-1) x5 x6 s) v (t.at_ i) = true then [] else qam (t.at_ i).L).map (fun x=>qbf (fitT v d) (.mk x6 x1 x2 (-1) (-1) x5 x6 s) (Fld.nul (.mk x6 x1 x2 (-1) (-1) x5 x6 s) v x) x):=by
 rw [qfB h]
 have e:qbJ (fitT v d) v (.mk 11 x1 x2 x3 (-1) x5 x6 s) (t.at_ i) = .mk 0 [] (Fld.nul (.mk 11 x1 x2 x3 (-1) x5 x6 s) v (t.at_ i)) ((qam (t.at_ i).L).map (fun x=>qbf (fitT v d) (.mk x6 x1 x2 (-1) (-1) x5 x6 s) (Fld.nul (.mk x6 x1 x2 (-1) (-1) x5 x6 s) v x) x)) []:=by
  simp [qbJ,Fld.kind,Fld.tag,Fld.elem]
 rw [e]
 refine ⟨rfl,?_⟩
 unfold lst
 show (if Fld.nul _ v (t.at_ i) = true then [] else _) = _
 split
 ·rfl
 rfl
theorem qhv {v:Int} {d:Nat} {x1 x2 x5 x6:Int} {s:List Fld} {b:Bool} {x:Tree}:(∀ i,(qbf (fitT v d) (.mk 10 x1 x2 (-1) (-1) x5 x6 s) b x).at_ i = (fitT v d s x).at_ i) ∧ (qbf (fitT v d) (.mk 10 x1 x2 (-1) (-1) x5 x6 s) b x).U = (fitT v d s x).U:=by
 cases hT:fitT v d s x with
 | mk n s' b' l u =>
  have e:qbf (fitT v d) (.mk 10 x1 x2 (-1) (-1) x5 x6 s) b x = .mk n s' b l u:=by
   simp [qbf,Fld.kind,Fld.sub,hT]
  rw [e]
  exact ⟨fun _=>rfl,rfl⟩
theorem qi0 {v:Int} {d:Nat} {l:List Fld} {t:Tree} {i:Nat} {x1 x2 x3 x4 x5 x6:Int} {s:List Fld} (h:l[i]? = some (.mk 10 x1 x2 x3 x4 x5 x6 s)) :
  (∀ j,((fitT v (d + 1) l t).at_ i).at_ j = (fitT v d s (t.at_ i)).at_ j) ∧ ((fitT v (d + 1) l t).at_ i).U = (fitT v d s (t.at_ i)).U ∧ ((fitT v (d + 1) l t).at_ i).null = Fld.nul (.mk 10 x1 x2 x3 x4 x5 x6 s) v (t.at_ i):=by
 rw [qfB h]
 cases hT:fitT v d s (t.at_ i) with
 | mk n s' b' l' u =>
  have e:qbJ (fitT v d) v (.mk 10 x1 x2 x3 x4 x5 x6 s) (t.at_ i) = .mk n s' (Fld.nul (.mk 10 x1 x2 x3 x4 x5 x6 s) v (t.at_ i)) l' u:=by
   simp [qbJ,qbf,Fld.kind,Fld.sub,hT]
  rw [e]
  exact ⟨fun _=>rfl,rfl,rfl⟩
theorem qkK {v:Int} {d:Nat} {l:List Fld} {t:Tree} {i:Nat} {k x1 x2 x3 x4 x5 x6:Int} {s:List Fld} (h:l[i]? = some (.mk k x1 x2 x3 x4 x5 x6 s)) (hk:k = 8 ∨ k = 9) :
  ((fitT v (d + 1) l t).at_ i).S = qay (t.at_ i).S:=by
 rw [qfB h]
 have e1:k ≠ 11:=by omega
 have e:qbJ (fitT v d) v (.mk k x1 x2 x3 x4 x5 x6 s) (t.at_ i) = .mk 0 (qay (t.at_ i).S) (Fld.nul (.mk k x1 x2 x3 x4 x5 x6 s) v (t.at_ i)) [] []:=by
  simp [qbJ,qbf,Fld.kind,e1,hk]
 rw [e]
 rfl
theorem qi1 {k x1 x2 x4 x5 x6:Int} {s:List Fld} {v:Int} {t:Tree}:Fld.nul (.mk k x1 x2 (-1) x4 x5 x6 s) v t = false:=by
 cases t
 simp [Fld.nul]
theorem qg4 {x:Int}:be 8 (((IntKind.u64.wrap x).toNat:Nat):Int) = be 8 x:=by
 rw [show (((IntKind.u64.wrap x).toNat:Nat):Int) = IntKind.u64.wrap x by rw [qc0]; omega,qjh]
theorem qj1 {k x1 x2 n x4 x5 x6:Int} {s:List Fld} {v:Int} {t:Tree} (h:Fld.nul (.mk k x1 x2 n x4 x5 x6 s) v t = true):v ≥ n:=by
 cases t
 simp only [Fld.nul,Bool.and_eq_true,decide_eq_true_eq] at h
 exact h.2
theorem qkm {x:Int}:by8 (if decide (x % 2 = 1) = true then 1 else 0) = by8 (x % 2):=by
 rcases Int.emod_two_eq x with h | h <;> simp [h]
theorem qjI (n:Int):(IntKind.i64.wrap (BitVec.ofInt 64 n &&& BitVec.ofInt 64 1).toNat == 1) = decide (n % 2 = 1):=by
 rw [and1]
 rw [Bool.eq_iff_iff,beq_iff_eq,decide_eq_true_iff]
def canU (u:List (Int × Bs)):Prop:=qcV u ∧ u.length ≤ 1000000 ∧ ∀ y ∈ u,y.2.length < 4294967296
theorem qe1 {v:Int} {d:Nat} {l:List Fld} {t:Tree}:canU (fitT v d l t).U:=by
 rw [qjF]
 refine ⟨qf1 (qff _ _),?_,fun y hy=>?_⟩
 ·rw [qcQ]; exact Nat.le_trans (qgu _ _) (by decide)
 obtain ⟨x,_,rfl⟩:=List.mem_map.1 hy
 exact Nat.lt_of_le_of_lt (qbn _) (by decide)
theorem qfi {v:Int} {d:Nat} {l:List Fld} {t:Tree} {i:Nat} {x1 x2 x3 x5 x6:Int} {s:List Fld} (h:l[i]? = some (.mk 11 x1 x2 x3 (-1) x5 x6 s)):(lst ((fitT v (d + 1) l t).at_ i)).length ≤ 1000000:=by
 rw [(qeC h).2,List.length_map]
 split
 ·exact Nat.zero_le _
 simp only [qam,List.length_take]; omega
theorem qi2 {v:Int} {d:Nat} {l:List Fld} {t:Tree} {i:Nat} {x1 x2 x3 x5 x6:Int} {s:List Fld} {Q:Tree → Prop} (h:l[i]? = some (.mk 11 x1 x2 x3 (-1) x5 x6 s))
  (hq:∀ y,Q (qbf (fitT v d) (.mk x6 x1 x2 (-1) (-1) x5 x6 s) (Fld.nul (.mk x6 x1 x2 (-1) (-1) x5 x6 s) v y) y)):∀ x ∈ lst ((fitT v (d + 1) l t).at_ i),Q x:=by
 rw [(qeC h).2]
 intro x hx
 obtain ⟨y,_,rfl⟩:=List.mem_map.1 hx
 exact hq y
theorem sHas (k x1 x2 x3 x4 x5 x6:Int) (fs:List Fld) (AF:Option Addr) (cF:Nat) (v:Int) (w:World) :
  Calls Tryz.prog 51 #[.agg #[.int .i64 k,.int .i64 x1,.int .i64 x2,.int .i64 x3,.int .i64 x4,.int .i64 x5,.int .i64 x6,.slice AF fs.length cF],.int .i64 v] w (qdu w (.bool (Fld.has (Fld.mk k x1 x2 x3 x4 x5 x6 fs) v))):=by
 refine enter (n:=20) Tryz.func51 rfl Tryz.ntmps51 kz fun a hE=>?_
 have hW:=WOk.start w Nil
 refine qad [0,1] kz ?_
 refine qah (qa9 hW hE (d:=2) (cs:=[.int .i64 k,.int .i64 x1,.int .i64 x2,.int .i64 x3,.int .i64 x4,.int .i64 x5,.int .i64 x6,.slice AF fs.length cF]) kz fun b1 a2 w3 hb4 hz5 hF6 hW7 hE8=>?_)
 refine qak [1] [] [(1,.v (.int .i64 v)),(2,.p 0 0)] hW7 hE8 fun a9 af=>?_
 refine qae (qaa ?_)
 refine qad [0,1,2,3,4,5,6,7,8,9,10,11,12,13,14,15] kz ?_
 refine qak [0,1,2,3,4] [5,6,7,8,9,10,11,12,13,14,15] [(1,.v (.int .i64 v)),(2,.p 0 0),(9,.v (.bool (decide (x1 ≤ v))))] hW7 af fun av ac=>?_
 refine (Bool.eq_false_or_eq_true (decide (x1 ≤ v))).elim (fun aa=>?_) (fun aa=>?_)
 ·
  have ao:=of_decide_eq_true aa
  have ag:=ac.cast (env':=[(1,.v (.int .i64 v)),(2,.p 0 0),(9,.v (.bool true))]) (by rw [aa])
  refine qak [5,6,7,8] [9,10,11,12,13,14,15] [(1,.v (.int .i64 v)),(2,.p 0 0),(9,.v (.bool true)),(13,.v (.bool (decide (x2 < 0))))] hW7 ag fun aw ae=>?_
  refine (Bool.eq_false_or_eq_true (decide (x2 < 0))).elim (fun ab=>?_) (fun ab=>?_)
  ·
   have ap:=of_decide_eq_true ab
   have ah:=ae.cast (env':=[(1,.v (.int .i64 v)),(2,.p 0 0),(9,.v (.bool true)),(13,.v (.bool true))]) (by rw [ab])
   refine qak [9,10,11,12,13,14,15] [] [(4,.v (.bool true))] hW7 ah fun ax ai=>?_
   refine qae (qaa ?_)
   refine wp_ret ?_
   refine qaV ai hW7.cells (v:=.bool true) kz ?_
   exact ⟨by simp only [Fld.has,aa,ab,Bool.true_and,Bool.and_true,Bool.false_and,Bool.and_false,Bool.true_or,Bool.false_or,Bool.or_true,Bool.or_false],hW7.step⟩
  have ar:=of_decide_eq_false ab
  have aj:=ae.cast (env':=[(1,.v (.int .i64 v)),(2,.p 0 0),(9,.v (.bool true)),(13,.v (.bool false))]) (by rw [ab])
  refine qak [9,10,11,12,13,14,15] [] [(4,.v (.bool (decide (v ≤ x2))))] hW7 aj fun ay ak=>?_
  refine qae (qaa ?_)
  refine wp_ret ?_
  refine qaV ak hW7.cells (v:=.bool (decide (v ≤ x2))) kz ?_
  exact ⟨by simp only [Fld.has,aa,ab,Bool.true_and,Bool.and_true,Bool.false_and,Bool.and_false,Bool.true_or,Bool.false_or,Bool.or_true,Bool.or_false],hW7.step⟩
 have au:=of_decide_eq_false aa
 have al:=ac.cast (env':=[(1,.v (.int .i64 v)),(2,.p 0 0),(9,.v (.bool false))]) (by rw [aa])
 refine qak [5,6,7,8,9,10,11,12,13,14,15] [] [(4,.v (.bool false))] hW7 al fun aA am=>?_
 refine qae (qaa ?_)
 refine wp_ret ?_
 refine qaV am hW7.cells (v:=.bool false) kz ?_
 exact ⟨by simp only [Fld.has,aa,Bool.true_and,Bool.and_true,Bool.false_and,Bool.and_false,Bool.true_or,Bool.false_or,Bool.or_true,Bool.or_false],hW7.step⟩
theorem qkn (k x1 x2 x3 x4 x5 x6:Int) (fs:List Fld) (AF:Option Addr) (cF:Nat) (v:Int) (n:Int) (s:Bs) (b:Bool) (l:List Tree) (u:List (Int × Bs)) (A1:Option Addr) (c1:Nat) (A2:Option Addr) (c2:Nat) (A3:Option Addr) (c3:Nat) (w:World) :
  Calls Tryz.prog 48 #[.agg #[.int .i64 k,.int .i64 x1,.int .i64 x2,.int .i64 x3,.int .i64 x4,.int .i64 x5,.int .i64 x6,.slice AF fs.length cF],.int .i64 v,.agg #[.int .i64 n,.slice A1 s.length c1,.bool b,.slice A2 l.length c2,.slice A3 u.length c3]] w (qdu w (.bool (Fld.nul (Fld.mk k x1 x2 x3 x4 x5 x6 fs) v (Tree.mk n s b l u)))):=by
 refine enter (n:=20) Tryz.func48 rfl Tryz.ntmps48 kz fun a hE=>?_
 have hW:=WOk.start w Nil
 refine qad [0,1,2] kz ?_
 refine qah (qa9 hW hE (d:=3) (cs:=[.int .i64 k,.int .i64 x1,.int .i64 x2,.int .i64 x3,.int .i64 x4,.int .i64 x5,.int .i64 x6,.slice AF fs.length cF]) kz fun b1 a2 w3 hb4 hz5 hF6 hW7 hE8=>?_)
 refine qah (qa9 hW7 hE8 (d:=5) (cs:=[.int .i64 n,.slice A1 s.length c1,.bool b,.slice A2 l.length c2,.slice A3 u.length c3]) kz fun b9 ay aA ar au av aa ag=>?_)
 refine qak [2] [] [(1,.v (.int .i64 v)),(3,.p 0 0),(5,.p 1 0)] aa ag fun aB ah=>?_
 refine qae (qaa ?_)
 refine qad [0,1,2,3,4,5,6,7,8,9,10,11,12,13] kz ?_
 refine qak [0,1,2] [3,4,5,6,7,8,9,10,11,12,13] [(1,.v (.int .i64 v)),(3,.p 0 0),(9,.v (.bool b))] aa ah fun aC ae=>?_
 refine (Bool.eq_false_or_eq_true (b)).elim (fun ac=>?_) (fun ac=>?_)
 ·
  have ai:=ae.cast (env':=[(1,.v (.int .i64 v)),(3,.p 0 0),(9,.v (.bool true))]) (by rw [ac])
  refine qak [3,4,5,6,7] [8,9,10,11,12,13] [(1,.v (.int .i64 v)),(3,.p 0 0),(14,.v (.bool (decide (x3 ≥ 0))))] aa ai fun aD af=>?_
  refine (Bool.eq_false_or_eq_true (decide (x3 ≥ 0))).elim (fun ab=>?_) (fun ab=>?_)
  ·
   have aw:=of_decide_eq_true ab
   have aj:=af.cast (env':=[(1,.v (.int .i64 v)),(3,.p 0 0),(14,.v (.bool true))]) (by rw [ab])
   refine qak [8,9,10,11,12,13] [] [(6,.v (.bool (decide (v ≥ x3))))] aa aj fun aE ak=>?_
   refine qae (qaa ?_)
   refine wp_ret ?_
   refine qaV ak aa.cells (v:=.bool (decide (v ≥ x3))) kz ?_
   exact ⟨by simp only [Fld.nul,ac,ab,Bool.true_and,Bool.and_true,Bool.false_and,Bool.and_false,Bool.true_or,Bool.false_or,Bool.or_true,Bool.or_false],aa.step⟩
  have ax:=of_decide_eq_false ab
  have al:=af.cast (env':=[(1,.v (.int .i64 v)),(3,.p 0 0),(14,.v (.bool false))]) (by rw [ab])
  refine qak [8,9,10,11,12,13] [] [(6,.v (.bool false))] aa al fun aF am=>?_
  refine qae (qaa ?_)
  refine wp_ret ?_
  refine qaV am aa.cells (v:=.bool false) kz ?_
  exact ⟨by simp only [Fld.nul,ac,ab,Bool.true_and,Bool.and_true,Bool.false_and,Bool.and_false,Bool.true_or,Bool.false_or,Bool.or_true,Bool.or_false],aa.step⟩
 have ao:=ae.cast (env':=[(1,.v (.int .i64 v)),(3,.p 0 0),(9,.v (.bool false))]) (by rw [ac])
 refine qak [3,4,5,6,7,8,9,10,11,12,13] [] [(6,.v (.bool false))] aa ao fun aG ap=>?_
 refine qae (qaa ?_)
 refine wp_ret ?_
 refine qaV ap aa.cells (v:=.bool false) kz ?_
 exact ⟨by simp only [Fld.nul,ac,Bool.true_and,Bool.and_true,Bool.false_and,Bool.and_false,Bool.true_or,Bool.false_or,Bool.or_true,Bool.or_false],aa.step⟩
theorem qi3 (k:Int) (w:World):Calls Tryz.prog 67 #[.int .i64 k] w (qdu w (.int .i64 ((qbv k:Nat):Int))):=by
 refine enter (n:=11) Tryz.func67 rfl Tryz.ntmps67 kz fun a hE=>?_
 have hW:=WOk.start w Nil
 refine qaz [(0,.v (.int .i64 k))] hW hE fun a1 hE2=>?_
 refine wp_seq ?_
 refine qaz [(3,.v (.int .i64 k))] hW hE2 fun a3 hE4=>?_
 refine wp_block ?_
 refine qaz [(3,.v (.int .i64 k)),(4,.v (.bool (k == 1)))] hW hE4 fun a5 hE6=>?_
 refine qau hE6 (b:=k == 1) kz (fun hc7=>?_) (fun hc7=>?_)
 ·
  have hf8:k = 1:=by simpa using hc7
  refine qaz [(2,.v (.int .i64 1))] hW hE6 fun a9 ah=>?_
  refine wp_ret ?_
  refine qaR ?_
  refine qaB ?_
  refine qaV ah hW.cells (v:=.int .i64 1) kz ?_
  exact ⟨by simp_all [qbv],hW.step⟩
 have am:k ≠ 1:=by simpa using hc7
 refine wp_seq ?_
 refine qaz [(3,.v (.int .i64 k)),(6,.v (.bool (k == 2)))] hW hE6 fun ax aa=>?_
 refine qau aa (b:=k == 2) kz (fun ab=>?_) (fun ab=>?_)
 ·
  have ao:k = 2:=by simpa using ab
  refine wp_skip ?_
  refine qaa ?_
  refine qcS aa (b:=k == 2) kz (ab) ?_
  refine qaz [(2,.v (.int .i64 2))] hW aa fun ay ai=>?_
  refine wp_ret ?_
  refine qaR ?_
  refine qaB ?_
  refine qaV ai hW.cells (v:=.int .i64 2) kz ?_
  exact ⟨by simp_all [qbv],hW.step⟩
 have ap:k ≠ 2:=by simpa using ab
 refine qap [0,1] kz ?_
 refine qak [0,1] [] [(3,.v (.int .i64 k)),(6,.v (.bool (k == 5)))] hW aa fun aA ac=>?_
 refine qae (qaa ?_)
 refine qau ac (b:=k == 5) kz (fun ae=>?_) (fun ae=>?_)
 ·
  have ar:k = 5:=by simpa using ae
  refine qaz [(2,.v (.int .i64 2))] hW ac fun aB aj=>?_
  refine wp_ret ?_
  refine qaR ?_
  refine qaB ?_
  refine qaV aj hW.cells (v:=.int .i64 2) kz ?_
  exact ⟨by simp_all [qbv],hW.step⟩
 have au:k ≠ 5:=by simpa using ae
 refine qaz [(9,.v (.bool (k == 3)))] hW ac fun aC af=>?_
 refine qau af (b:=k == 3) kz (fun ag=>?_) (fun ag=>?_)
 ·
  have av:k = 3:=by simpa using ag
  refine qaz [(2,.v (.int .i64 4))] hW af fun aD ak=>?_
  refine wp_ret ?_
  refine qaR ?_
  refine qaB ?_
  refine qaV ak hW.cells (v:=.int .i64 4) kz ?_
  exact ⟨by simp_all [qbv],hW.step⟩
 have aw:k ≠ 3:=by simpa using ag
 refine wp_skip ?_
 refine qas ?_
 refine qaa ?_
 refine qaz [(2,.v (.int .i64 8))] hW af fun aE al=>?_
 refine wp_ret ?_
 refine qaV al hW.cells (v:=.int .i64 8) kz ?_
 exact ⟨by simp_all [qbv],hW.step⟩
theorem qfF (A:Option Addr) (c:Nat) (s:Bs) (hc:s.length ≤ c) (w:World) :
  Calls Tryz.prog 24 #[.slice A s.length c] w (qdu w (.slice A (qay s).length c)):=by
 refine enter (n:=8) Tryz.func24 rfl Tryz.ntmps24 kz fun a hE=>?_
 have hW:=WOk.start w Nil
 refine qaz [(0,.v (.slice A s.length c))] hW hE fun a1 hE2=>?_
 refine qad [0,1,2,3,4,5] kz ?_
 refine qak [0,1,2,3] [4,5] [(3,.v (.slice A s.length c)),(6,.v (.int .i64 (if 32767 < ((s.length:Nat):Int) then 32767 else ((s.length:Nat):Int))))] hW hE2 fun a3 hE4=>?_
 refine qah (qd4 hE4 (t:=22) (A:=A) (m:=s.length) (cp:=c) (q:=(if 32767 < ((s.length:Nat):Int) then 32767 else ((s.length:Nat):Int))) (d:=7) (j:=(qay s).length) kz (e:=5) (size:=1) (bytes:=1) kz (by simpa [qay] using qgG s.length) (by simp only [qay,List.length_take]; omega) fun a5 hE6=>?_)
 refine qak [5] [] [(2,.v (.slice A ((qay s).length) c))] hW hE6 fun a7 hE8=>?_
 refine qae (qaa ?_)
 refine wp_ret ?_
 refine qaV hE8 hW.cells (v:=.slice A ((qay s).length) c) kz ?_
 exact ⟨rfl,hW.step⟩
theorem qf7 (A:Option Addr) (c:Nat) (s:List Tree) (hc:s.length ≤ c) (w:World) :
  Calls Tryz.prog 49 #[.slice A s.length c] w (qdu w (.slice A (qam s).length c)):=by
 refine enter (n:=8) Tryz.func49 rfl Tryz.ntmps49 kz fun a hE=>?_
 have hW:=WOk.start w Nil
 refine qaz [(0,.v (.slice A s.length c))] hW hE fun a1 hE2=>?_
 refine qad [0,1,2,3,4,5] kz ?_
 refine qak [0,1,2,3] [4,5] [(3,.v (.slice A s.length c)),(6,.v (.int .i64 (if 32767 < ((s.length:Nat):Int) then 32767 else ((s.length:Nat):Int))))] hW hE2 fun a3 hE4=>?_
 refine qah (qd4 hE4 (t:=23) (A:=A) (m:=s.length) (cp:=c) (q:=(if 32767 < ((s.length:Nat):Int) then 32767 else ((s.length:Nat):Int))) (d:=7) (j:=(qam s).length) kz (e:=26) (size:=5) (bytes:=88) kz (by simpa [qam] using qgG s.length) (by simp only [qam,List.length_take]; omega) fun a5 hE6=>?_)
 refine qak [5] [] [(2,.v (.slice A ((qam s).length) c))] hW hE6 fun a7 hE8=>?_
 refine qae (qaa ?_)
 refine wp_ret ?_
 refine qaV hE8 hW.cells (v:=.slice A ((qam s).length) c) kz ?_
 exact ⟨rfl,hW.step⟩
theorem qkL (A A':Option Addr) (c c':Nat) (s t:Bs) (w:World) (F:Nat → Nat → Prop) (hs:Octs w F A c s) (ht:Octs w F A' c' t) :
  Calls Tryz.prog 8 #[.slice A s.length c,.slice A' t.length c'] w (qdu w (.bool (decide (s = t)))):=by
 refine enter (n:=26) Tryz.func8 rfl Tryz.ntmps8 kz fun a hE=>?_
 have hW:=WOk.start w Nil
 have hl:=Slots.small hs
 refine qaz [(0,.v (.slice A s.length c)),(1,.v (.slice A' t.length c'))] hW hE fun a1 hE2=>?_
 refine wp_seq ?_
 refine qaz [(0,.v (.slice A s.length c)),(1,.v (.slice A' t.length c')),(10,.v (.bool (((s.length:Nat):Int) != ((t.length:Nat):Int))))] hW hE2 fun a3 hE4=>?_
 refine qau hE4 (b:=((s.length:Nat):Int) != ((t.length:Nat):Int)) kz (fun hc5=>?_) (fun hc5=>?_)
 ·
  have hf6:((s.length:Nat):Int) ≠ ((t.length:Nat):Int):=by simpa using hc5
  refine qaz [(4,.v (.bool false))] hW hE4 fun a7 hE8=>?_
  refine wp_ret ?_
  refine qaB ?_
  refine qaV hE8 hW.cells (v:=.bool false) kz ?_
  exact ⟨by first | rw [← qfN hq (by omega) hlen] | rw [← qgH ‹_›] | rw [← qfM ‹_›],hW.step⟩
 have hf9:((s.length:Nat):Int) = ((t.length:Nat):Int):=by simpa using hc5
 refine wp_skip ?_
 refine qaa ?_
 refine wp_seq ?_
 refine qaz [(0,.v (.slice A s.length c)),(1,.v (.slice A' t.length c')),(12,.v (.int .i64 ((s.length:Nat):Int))),(13,.v (.int .i64 0))] hW hE4 fun aQ ak=>?_
 refine wp_block ?_
 have hlen:s.length = t.length:=by omega
 refine wp_loop_ghost (fun n_ a_ w_=>∃ (k:Nat),n_ = s.length - k ∧ k ≤ s.length ∧ (s.take k = t.take k) ∧ LInv hW 26 [] [] [(0,.v (.slice A s.length c)),(1,.v (.slice A' t.length c')),(12,.v (.int .i64 ((s.length:Nat):Int))),(13,.v (.int .i64 ((k:Nat):Int)))] a_ w_) (s.length) ⟨0,by omega,by omega,rfl,ak.pk,hW,Fr.refl _ _ _⟩ ?_
 rintro aR aS aT ⟨k,aE,aF,hq,al,ab,am⟩
 refine qaz [(0,.v (.slice A s.length c)),(1,.v (.slice A' t.length c')),(12,.v (.int .i64 ((s.length:Nat):Int))),(13,.v (.int .i64 ((k:Nat):Int))),(14,.v (.bool (decide (((k:Nat):Int) < ((s.length:Nat):Int)))))] ab al fun aU ac=>?_
 refine wp_seq ?_
 refine qau ac (b:=decide (((k:Nat):Int) < ((s.length:Nat):Int))) kz (fun ae=>?_) (fun ae=>?_)
 ·
  have aG:=of_decide_eq_true ae
  refine wp_skip ?_
  refine qaa ?_
  refine wp_seq ?_
  refine wp_block ?_
  refine qaz [(0,.v (.slice A s.length c)),(1,.v (.slice A' t.length c')),(5,.v (.int .i64 ((k:Nat):Int))),(12,.v (.int .i64 ((s.length:Nat):Int))),(13,.v (.int .i64 ((k:Nat):Int)))] ab ac fun aV ao=>?_
  refine qc2 kz ab fun aW ap aa=>?_
  refine qbg [0,1,4,5] [(0,.v (.slice A s.length c)),(1,.v (.slice A' t.length c')),(12,.v (.int .i64 ((s.length:Nat):Int))),(13,.v (.int .i64 ((k:Nat):Int))),(16,.v (.slice A s.length c)),(17,.v (.int .i64 ((k:Nat):Int))),(20,.v (.slice A' t.length c')),(21,.v (.int .i64 ((k:Nat):Int)))] 5 (qab (qaf (qab (qab (qaf (qab qal)))))) (fun _ h=>h ▸ aa.cells) rfl ao fun aX ar=>?_
  obtain ⟨aH,aI,au,aJ,ah⟩:=Slots.get hs (i:=k) (by omega)
  refine qcT ar (i:=2) (t:=22) (A:=A) (m:=s.length) (q:=((k:Nat):Int)) (d:=18) kz (e:=5) (size:=1) (bytes:=1) kz au rfl (by omega) kz kz (qab (qaf (qab (qab (qaf (qab qal)))))) rfl fun aY av=>?_
  refine qdb av (i:=3) (t:=5) (b:=aH) (o:=aI + k * 1) (d:=19) kz (cs:=[.int .u8 ((s.getD k 0).toNat:Int)]) (v:=.int .u8 ((s.getD k 0).toNat:Int)) kz (fun w' h'=>h' ▸ (AtF.move ah aa.step nilM qco).at_) kz kz (qab (qaf (qab (qab (qaf (qab qal)))))) rfl fun aZ aw=>?_
  obtain ⟨aK,aL,ax,aM,ai⟩:=Slots.get ht (i:=k) (by omega)
  refine qcT aw (i:=6) (t:=22) (A:=A') (m:=t.length) (q:=((k:Nat):Int)) (d:=22) kz (e:=5) (size:=1) (bytes:=1) kz ax rfl (by omega) kz kz (qab (qaf (qab (qab (qaf (qab qal)))))) rfl fun ba ay=>?_
  refine qdb ay (i:=7) (t:=5) (b:=aK) (o:=aL + k * 1) (d:=23) kz (cs:=[.int .u8 ((t.getD k 0).toNat:Int)]) (v:=.int .u8 ((t.getD k 0).toNat:Int)) kz (fun w' h'=>h' ▸ (AtF.move ai aa.step nilM qco).at_) kz kz (qab (qaf (qab (qab (qaf (qab qal)))))) rfl fun bd aA=>?_
  refine qbg [8] [(0,.v (.slice A s.length c)),(1,.v (.slice A' t.length c')),(12,.v (.int .i64 ((s.length:Nat):Int))),(13,.v (.int .i64 ((k:Nat):Int))),(24,.v (.bool (((s.getD k 0).toNat:Int) != ((t.getD k 0).toNat:Int))))] 0 (qab (qaf (qab (qab (qaf (qab qal)))))) (fun _ h=>h ▸ aa.cells) rfl aA fun bf af=>?_
  refine qbb kz ?_ _
  refine qaa ?_
  refine qau af (b:=((s.getD k 0).toNat:Int) != ((t.getD k 0).toNat:Int)) kz (fun ag=>?_) (fun ag=>?_)
  ·
   have aN:((s.getD k 0).toNat:Int) ≠ ((t.getD k 0).toNat:Int):=by simpa using ag
   refine qaz [(4,.v (.bool false))] aa af fun bg aB=>?_
   refine wp_ret ?_
   refine qaR ?_
   refine qaB ?_
   refine qaB ?_
   refine qaR ?_
   refine qaB ?_
   refine qaV aB aa.cells (v:=.bool false) kz ?_
   exact ⟨by first | rw [← qfN hq (by omega) hlen] | rw [← qgH ‹_›] | rw [← qfM ‹_›],aa.step⟩
  have aO:((s.getD k 0).toNat:Int) = ((t.getD k 0).toNat:Int):=by simpa using ag
  refine wp_skip ?_
  refine qas ?_
  refine qaa ?_
  refine qap [0,1] kz ?_
  refine qak [0,1] [] [(0,.v (.slice A s.length c)),(1,.v (.slice A' t.length c')),(12,.v (.int .i64 ((s.length:Nat):Int))),(13,.v (.int .i64 (IntKind.i64.wrap (((k:Nat):Int) + 1))))] aa af fun bh aj=>?_
  refine qae (qaa ?_)
  have aC:IntKind.i64.wrap (((k:Nat):Int) + 1) = ((k + 1:Nat):Int):=qaN (by omega)
  rw [aC] at aj
  exact ⟨s.length - (k + 1),by omega,k + 1,rfl,by omega,qh6 hq (by omega) hlen ‹_›,aj.pk,aa,(am.trans ap)⟩
 have aP:=of_decide_eq_false ae
 refine wp_exit ?_
 refine qar ?_
 refine qar ?_
 refine qaE ?_
 refine qaa ?_
 refine qaz [(4,.v (.bool true))] ab ac fun bi aD=>?_
 refine wp_ret ?_
 refine qaV aD ab.cells (v:=.bool true) kz ?_
 exact ⟨by first | rw [← qfN hq (by omega) hlen] | rw [← qgH ‹_›] | rw [← qfM ‹_›],ab.step⟩
theorem sAt (ct:List Value) (t:Tree) (i:Nat) (w:World) (F:Nat → Nat → Prop) (ht:TreeR w F ct t) :
  Calls Tryz.prog 22 #[.agg ct.toArray,.int .i64 (i:Int)] w (qjS w F (t.at_ i)):=by
 obtain ⟨n1,s2,b3,l4,u5,A6,c7,A8,c9,aP,aQ,aR,rfl,rfl,aS,aK,aT,br⟩:=ht.open_
 have aL:=aS.small
 have aM:=aK.small
 refine enter (n:=16) Tryz.func22 rfl Tryz.ntmps22 kz fun a hE=>?_
 have hW:=WOk.start w Nil
 refine qad [0,1] kz ?_
 refine qah (qa9 hW hE (d:=2) (cs:=[.int .i64 n1,.slice A6 s2.length c7,.bool b3,.slice A8 l4.length c9,.slice aP u5.length aQ]) kz fun bt bu bv aU aV aW aA aB=>?_)
 refine qah (qaw aA aB (d:=4) (cs:=[.int .i64 0,.slice none 0 0,.bool false,.slice none 0 0,.slice none 0 0]) kz fun bw bz bA aX aY aZ aa aC=>?_)
 refine qae (qaa ?_)
 refine wp_seq ?_
 refine qaz [(1,.v (.int .i64 ((i:Nat):Int))),(2,.p 0 0),(4,.p 1 0),(9,.v (.bool (decide (((i:Nat):Int) < ((l4.length:Nat):Int)))))] aa aC fun bB ae=>?_
 refine qau ae (b:=decide (((i:Nat):Int) < ((l4.length:Nat):Int))) kz (fun af=>?_) (fun af=>?_)
 ·
  have ba:=of_decide_eq_true af
  refine qad [0,1,2,3,4,5] kz ?_
  refine qak [0,1,2] [3,4,5] [(4,.p 1 0),(11,.v (.slice A8 l4.length c9)),(12,.v (.int .i64 ((i:Nat):Int)))] aa ae fun bC aD=>?_
  obtain ⟨bd,bf,aE,bg,ab⟩:=Slots.get aK (i:=i) (by omega)
  obtain ⟨bh,ah⟩:∃ x,l4[i]? = some x:=⟨_,List.getElem?_eq_getElem (by omega)⟩
  have ag:=aT i bh ah
  obtain ⟨ak,al,am,ao,ap,ar,au,av,aw,ax,ay,bi,rfl,ac,bj,bk,bD,bE⟩:=ag.open_
  rw [ac] at ag
  have aN:=bj.small
  have aO:=bk.small
  rw [ac] at ab
  refine qah (qaM aD (t:=23) (A:=A8) (m:=l4.length) (q:=((i:Nat):Int)) (d:=13) kz (e:=26) (size:=5) (bytes:=88) kz aE rfl (by omega) fun bF aF=>?_)
  refine qah (qa0 aF (t:=26) (b:=bd) (o:=bf + i * 5) (d:=14) kz (cs:=[.int .i64 ak,.slice ar al.length au,.bool am,.slice av ao.length aw,.slice ax ap.length ay]) (v:=.agg #[.int .i64 ak,.slice ar al.length au,.bool am,.slice av ao.length aw,.slice ax ap.length ay]) kz (AtF.move ab aa.step nilM qco).at_ fun bG aG=>?_)
  refine qah (qaj aa aG (oi:=1) (cs:=[.int .i64 ak,.slice ar al.length au,.bool am,.slice av ao.length aw,.slice ax ap.length ay]) kz fun bH bn ai aH=>?_)
  refine qae (qaa ?_)
  refine wp_ret ?_
  refine qaB ?_
  refine qaV aH ai.cells (v:=.agg #[.int .i64 ak,.slice ar al.length au,.bool am,.slice av ao.length aw,.slice ax ap.length ay]) kz ?_
  exact ⟨_,rfl,by rw [qh8 ah]; exact ag,ai.step⟩
 have bp:=of_decide_eq_false af
 refine wp_skip ?_
 refine qaa ?_
 refine qad [0,1] kz ?_
 refine qak [0] [1] [(4,.p 1 0),(15,.v (.agg #[.int .i64 0,.slice none 0 0,.bool false,.slice none 0 0,.slice none 0 0]))] aa ae fun bI aI=>?_
 refine qah (qaj aa aI (oi:=1) (cs:=[.int .i64 0,.slice none 0 0,.bool false,.slice none 0 0,.slice none 0 0]) kz fun bJ bq aj aJ=>?_)
 refine qae (qaa ?_)
 refine wp_ret ?_
 refine qaV aJ aj.cells (v:=.agg #[.int .i64 0,.slice none 0 0,.bool false,.slice none 0 0,.slice none 0 0]) kz ?_
 exact ⟨_,rfl,by rw [qh9 (by omega)]; exact TreeR.zero _ _,aj.step⟩
theorem iAt (ct:List Value) (t:Tree) (i:Nat) (w:World) (F:Nat → Nat → Prop) (ht:TreeR w F ct t) :
  Calls Tryz.prog 29 #[.agg ct.toArray,.int .i64 (i:Int)] w (qjS w F (t.at_ i)):=by
 obtain ⟨n1,s2,b3,l4,u5,A6,c7,A8,c9,aP,aQ,aR,rfl,rfl,aS,aK,aT,br⟩:=ht.open_
 have aL:=aS.small
 have aM:=aK.small
 refine enter (n:=16) Tryz.func29 rfl Tryz.ntmps29 kz fun a hE=>?_
 have hW:=WOk.start w Nil
 refine qad [0,1] kz ?_
 refine qah (qa9 hW hE (d:=2) (cs:=[.int .i64 n1,.slice A6 s2.length c7,.bool b3,.slice A8 l4.length c9,.slice aP u5.length aQ]) kz fun bt bu bv aU aV aW aA aB=>?_)
 refine qah (qaw aA aB (d:=4) (cs:=[.int .i64 0,.slice none 0 0,.bool false,.slice none 0 0,.slice none 0 0]) kz fun bw bz bA aX aY aZ aa aC=>?_)
 refine qae (qaa ?_)
 refine wp_seq ?_
 refine qaz [(1,.v (.int .i64 ((i:Nat):Int))),(2,.p 0 0),(4,.p 1 0),(9,.v (.bool (decide (((i:Nat):Int) < ((l4.length:Nat):Int)))))] aa aC fun bB ae=>?_
 refine qau ae (b:=decide (((i:Nat):Int) < ((l4.length:Nat):Int))) kz (fun af=>?_) (fun af=>?_)
 ·
  have ba:=of_decide_eq_true af
  refine qad [0,1,2,3,4,5] kz ?_
  refine qak [0,1,2] [3,4,5] [(4,.p 1 0),(11,.v (.slice A8 l4.length c9)),(12,.v (.int .i64 ((i:Nat):Int)))] aa ae fun bC aD=>?_
  obtain ⟨bd,bf,aE,bg,ab⟩:=Slots.get aK (i:=i) (by omega)
  obtain ⟨bh,ah⟩:∃ x,l4[i]? = some x:=⟨_,List.getElem?_eq_getElem (by omega)⟩
  have ag:=aT i bh ah
  obtain ⟨ak,al,am,ao,ap,ar,au,av,aw,ax,ay,bi,rfl,ac,bj,bk,bD,bE⟩:=ag.open_
  rw [ac] at ag
  have aN:=bj.small
  have aO:=bk.small
  rw [ac] at ab
  refine qah (qaM aD (t:=36) (A:=A8) (m:=l4.length) (q:=((i:Nat):Int)) (d:=13) kz (e:=39) (size:=5) (bytes:=88) kz aE rfl (by omega) fun bF aF=>?_)
  refine qah (qa0 aF (t:=39) (b:=bd) (o:=bf + i * 5) (d:=14) kz (cs:=[.int .i64 ak,.slice ar al.length au,.bool am,.slice av ao.length aw,.slice ax ap.length ay]) (v:=.agg #[.int .i64 ak,.slice ar al.length au,.bool am,.slice av ao.length aw,.slice ax ap.length ay]) kz (AtF.move ab aa.step nilM qco).at_ fun bG aG=>?_)
  refine qah (qaj aa aG (oi:=1) (cs:=[.int .i64 ak,.slice ar al.length au,.bool am,.slice av ao.length aw,.slice ax ap.length ay]) kz fun bH bn ai aH=>?_)
  refine qae (qaa ?_)
  refine wp_ret ?_
  refine qaB ?_
  refine qaV aH ai.cells (v:=.agg #[.int .i64 ak,.slice ar al.length au,.bool am,.slice av ao.length aw,.slice ax ap.length ay]) kz ?_
  exact ⟨_,rfl,by rw [qh8 ah]; exact ag,ai.step⟩
 have bp:=of_decide_eq_false af
 refine wp_skip ?_
 refine qaa ?_
 refine qad [0,1] kz ?_
 refine qak [0] [1] [(4,.p 1 0),(15,.v (.agg #[.int .i64 0,.slice none 0 0,.bool false,.slice none 0 0,.slice none 0 0]))] aa ae fun bI aI=>?_
 refine qah (qaj aa aI (oi:=1) (cs:=[.int .i64 0,.slice none 0 0,.bool false,.slice none 0 0,.slice none 0 0]) kz fun bJ bq aj aJ=>?_)
 refine qae (qaa ?_)
 refine wp_ret ?_
 refine qaV aJ aj.cells (v:=.agg #[.int .i64 0,.slice none 0 0,.bool false,.slice none 0 0,.slice none 0 0]) kz ?_
 exact ⟨_,rfl,by rw [qh9 (by omega)]; exact TreeR.zero _ _,aj.step⟩
theorem qfj (x:Int) (size:Nat) (hsz:size ≤ 8) (w:World) :
  Calls Tryz.prog 66 #[.int .i64 x,.int .i64 ((size:Nat):Int)] w (qdr w 5 (be size x)):=by
 refine enter (n:=22) Tryz.func66 rfl Tryz.ntmps66 kz fun a hE=>?_
 have hW:=WOk.start w Nil
 refine qaz [(0,.v (.int .i64 x)),(1,.v (.int .i64 ((size:Nat):Int)))] hW hE fun a1 hE2=>?_
 refine qaz [(0,.v (.int .i64 x)),(1,.v (.int .i64 ((size:Nat):Int))),(5,.v (.slice none 0 0))] hW hE2 fun a3 hE4=>?_
 refine wp_seq ?_
 refine qaz [(0,.v (.int .i64 x)),(5,.v (.slice none 0 0)),(6,.v (.int .i64 (IntKind.i64.wrap (((size:Nat):Int) - 1))))] hW hE4 fun a5 hE6=>?_
 refine wp_block ?_
 have hW7:=hW.addNil 5 1
 have hF8:=hW.frNil 5 1
 have aj:IntKind.i64.wrap (((size:Nat):Int) - 1) = ((size:Nat):Int) - 1 - ((0:Nat):Int):=by rw [wrap_i64 (by omega) (by omega)]; omega
 rw [aj] at hE6
 refine wp_loop_ghost (fun n_ a_ w_=>∃ (k:Nat) (A:Option Addr) (c:Nat),n_ = size - k ∧ k ≤ size ∧ LInv hW7 22 [] [brow A c 5 ((be size x).take k)] [(0,.v (.int .i64 x)),(5,.v (.slice A (((be size x).take k).length) c)),(6,.v (.int .i64 (((size:Nat):Int) - 1 - ((k:Nat):Int))))] a_ w_) (size) ⟨0,none,0,by omega,by omega,hE6.pk,hW7,Fr.refl _ _ _⟩ ?_
 rintro n9 aL aM ⟨k,A,c,aH,aI,ak,aa,al⟩
 refine wp_seq ?_
 refine qaz [(0,.v (.int .i64 x)),(5,.v (.slice A (((be size x).take k).length) c)),(6,.v (.int .i64 (((size:Nat):Int) - 1 - ((k:Nat):Int)))),(10,.v (.bool (decide ((((size:Nat):Int) - 1 - ((k:Nat):Int)) ≥ 0))))] aa ak fun aN ae=>?_
 refine qau ae (b:=decide ((((size:Nat):Int) - 1 - ((k:Nat):Int)) ≥ 0)) kz (fun af=>?_) (fun af=>?_)
 ·
  have aJ:=of_decide_eq_true af
  refine wp_skip ?_
  refine qaa ?_
  refine wp_seq ?_
  refine wp_block ?_
  refine qap [0,1,2,3,4,5,6,7,8] kz ?_
  refine qak [0,1,2,3] [4,5,6,7,8] [(0,.v (.int .i64 x)),(6,.v (.int .i64 (((size:Nat):Int) - 1 - ((k:Nat):Int)))),(13,.v (.slice A (((be size x).take k).length) c)),(14,.v (.int .i64 x)),(16,.v (.int .i64 (IntKind.i64.wrap (8 * (((size:Nat):Int) - 1 - ((k:Nat):Int))))))] aa ae fun aO am=>?_
  refine qah (qje am (k:=.i64) (p:=x) (q:=(IntKind.i64.wrap (8 * (((size:Nat):Int) - 1 - ((k:Nat):Int))))) (d:=17) (j:=8 * (size - 1 - k)) kz (by rw [wrap_i64 (by omega) (by omega)]; omega) (by simp only [IntKind.bits]; omega) fun aP ao=>?_)
  refine qak [5] [6,7,8] [(0,.v (.int .i64 x)),(6,.v (.int .i64 (((size:Nat):Int) - 1 - ((k:Nat):Int)))),(13,.v (.slice A (((be size x).take k).length) c)),(18,.v (.int .u8 (IntKind.u8.wrap (x / 2 ^ (8 * (size - 1 - k))))))] aa ao fun aQ ap=>?_
  refine qbl aa ap (k:=0) (e:=5) (size:=1) (len:=1) (cs:=[.int .u8 (IntKind.u8.wrap (x / 2 ^ (8 * (size - 1 - k))))]) (d1:=19) (d:=20) kz (t:=22) (bytes:=1) kz (fun _=>by kernel_rfl) rfl kz (by first | (have:=hroom; omega) | (simp; done) | (simp; omega)) fun ab ac aR aS ar au ⟨_,av⟩=>?_
  have aw:(⟨ab,ac,5,1,((be size x).take k).length + 1,bc ((be size x).take k) ++ [.int .u8 (IntKind.u8.wrap (x / 2 ^ (8 * (size - 1 - k))))]⟩:Rw) = brow ab ac 5 ((be size x).take k ++ [by8 (x / 2 ^ (8 * (size - 1 - k)))]):=qbr (by simp only [bc,List.map,qbT]; try rfl) rfl
  obtain ⟨ag,ax⟩:=au.rowEq 0 [brow ab ac 5 ((be size x).take k ++ [by8 (x / 2 ^ (8 * (size - 1 - k)))])] aw
  have ay:=EnvOk.pick av (ks:=[0,6,13,18,20]) (env':=[(0,.v (.int .i64 x)),(6,.v (.int .i64 (((size:Nat):Int) - 1 - ((k:Nat):Int)))),(13,.v (.slice A (((be size x).take k).length) c)),(18,.v (.int .u8 (IntKind.u8.wrap (x / 2 ^ (8 * (size - 1 - k)))))),(20,.v (.slice ab (((be size x).take k).length + 1) ac))]) kz
  have aA:=ay.cast (env':=[(0,.v (.int .i64 x)),(6,.v (.int .i64 (((size:Nat):Int) - 1 - ((k:Nat):Int)))),(13,.v (.slice A (((be size x).take k).length) c)),(18,.v (.int .u8 (IntKind.u8.wrap (x / 2 ^ (8 * (size - 1 - k)))))),(20,.v (.slice ab (((be size x).take k ++ [by8 (x / 2 ^ (8 * (size - 1 - k)))]).length) ac))]) (by simp only [List.length_append,List.length_cons,List.length_nil,Nat.zero_add])
  refine qak [8] [] [(0,.v (.int .i64 x)),(5,.v (.slice ab (((be size x).take k ++ [by8 (x / 2 ^ (8 * (size - 1 - k)))]).length) ac)),(6,.v (.int .i64 (((size:Nat):Int) - 1 - ((k:Nat):Int))))] ag aA fun aT aB=>?_
  refine qae ?_
  refine qas ?_
  refine qaa ?_
  refine qap [0,1,2] kz ?_
  refine qak [0,1,2] [] [(0,.v (.int .i64 x)),(5,.v (.slice ab (((be size x).take k ++ [by8 (x / 2 ^ (8 * (size - 1 - k)))]).length) ac)),(6,.v (.int .i64 (IntKind.i64.wrap ((((size:Nat):Int) - 1 - ((k:Nat):Int)) - 1))))] ag aB fun aU ah=>?_
  refine qae (qaa ?_)
  have ai:((be size x).take k ++ [by8 (x / 2 ^ (8 * (size - 1 - k)))]) = ((be size x).take (k + 1)):=(qgd (by omega)).symm
  have aC:=congrArg (brow ab ac 5) ai
  obtain ⟨aD,aE⟩:=ag.rowEq 0 [brow ab ac 5 ((be size x).take (k + 1))] aC
  rw [ai] at ah
  have aF:IntKind.i64.wrap ((((size:Nat):Int) - 1 - ((k:Nat):Int)) - 1) = ((size:Nat):Int) - 1 - (((k + 1):Nat):Int):=by rw [wrap_i64 (by omega) (by omega)]; omega
  rw [aF] at ah
  exact ⟨size - (k + 1),by omega,k + 1,ab,ac,rfl,by omega,ah.pk,aD,(((al.trans ar).trans ax).trans aE)⟩
 have aK:=of_decide_eq_false af
 refine wp_exit ?_
 refine qar ?_
 refine qar ?_
 refine qaE ?_
 refine qaa ?_
 refine qaz [(4,.v (.slice A (((be size x).take k).length) c))] aa ae fun aV aG=>?_
 refine wp_ret ?_
 refine qaV aG aa.cells (v:=.slice A (((be size x).take k).length) c) kz ?_
 exact qbd aa (k:=0) rfl (List.take_of_length_le (by simp; omega))
theorem qdW (x:Nat) (hx:x < 18446744073709551616) (w:World) :
  Calls Tryz.prog 54 #[.int .u64 ((x:Nat):Int)] w (qdr w 5 (uv x)):=by
 refine enter (n:=20) Tryz.func54 rfl Tryz.ntmps54 kz fun a hE=>?_
 have hW:=WOk.start w Nil
 refine qaz [(0,.v (.int .u64 ((x:Nat):Int)))] hW hE fun a1 hE2=>?_
 refine qaz [(0,.v (.int .u64 ((x:Nat):Int))),(3,.v (.slice none 0 0))] hW hE2 fun a3 hE4=>?_
 refine wp_seq ?_
 refine wp_block ?_
 have hW5:=hW.addNil 5 1
 have hF6:=hW.frNil 5 1
 refine wp_loop_ghost (fun n_ a_ w_=>∃ (A:Option Addr) (c:Nat) (pre:Bs) (m:Nat),n_ = m ∧ (pre ++ uv m = uv x) ∧ (m < 18446744073709551616) ∧ LInv hW5 20 [] [brow A c 5 pre] [(0,.v (.int .u64 ((m:Nat):Int))),(3,.v (.slice A pre.length c))] a_ w_) (x) ⟨none,0,[],x,rfl,rfl,hx,hE4.pk,hW5,Fr.refl _ _ _⟩ ?_
 rintro n7 a8 w9 ⟨A,c,pre,m,aN,hp,hm,am,aa,ao⟩
 refine wp_seq ?_
 refine qaz [(0,.v (.int .u64 ((m:Nat):Int))),(3,.v (.slice A pre.length c)),(5,.v (.bool (decide (((m:Nat):Int) > 127))))] aa am fun aS ae=>?_
 refine qau ae (b:=decide (((m:Nat):Int) > 127)) kz (fun af=>?_) (fun af=>?_)
 ·
  have aO:=of_decide_eq_true af
  refine wp_skip ?_
  refine qaa ?_
  refine wp_block ?_
  refine qad [0,1,2,3,4,5,6,7] kz ?_
  refine qak [0,1,2,3,4] [5,6,7] [(0,.v (.int .u64 ((m:Nat):Int))),(6,.v (.slice A pre.length c)),(10,.v (.int .u8 (IntKind.u8.wrap (BitVec.ofInt 8 (IntKind.u8.wrap (IntKind.u64.wrap (BitVec.ofInt 64 ((m:Nat):Int) &&& BitVec.ofInt 64 127).toNat)) ||| BitVec.ofInt 8 128).toNat)))] aa ae fun aT ap=>?_
  refine qbl aa ap (k:=0) (e:=5) (size:=1) (len:=1) (cs:=[.int .u8 (IntKind.u8.wrap (BitVec.ofInt 8 (IntKind.u8.wrap (IntKind.u64.wrap (BitVec.ofInt 64 ((m:Nat):Int) &&& BitVec.ofInt 64 127).toNat)) ||| BitVec.ofInt 8 128).toNat)]) (d1:=11) (d:=12) kz (t:=22) (bytes:=1) kz (fun _=>by kernel_rfl) rfl kz (by have h1_:=qes x hx; rw [← hp,List.length_append] at h1_; omega) fun ab ac aU aV ar au ⟨_,av⟩=>?_
  have aw:(⟨ab,ac,5,1,pre.length + 1,bc pre ++ [.int .u8 (IntKind.u8.wrap (BitVec.ofInt 8 (IntKind.u8.wrap (IntKind.u64.wrap (BitVec.ofInt 64 ((m:Nat):Int) &&& BitVec.ofInt 64 127).toNat)) ||| BitVec.ofInt 8 128).toNat)]⟩:Rw) = brow ab ac 5 (pre ++ [by8 (BitVec.ofInt 8 (IntKind.u8.wrap (IntKind.u64.wrap (BitVec.ofInt 64 ((m:Nat):Int) &&& BitVec.ofInt 64 127).toNat)) ||| BitVec.ofInt 8 128).toNat]):=qbr (by simp only [bc,List.map,qbT]; try rfl) rfl
  obtain ⟨ag,ax⟩:=au.rowEq 0 [brow ab ac 5 (pre ++ [by8 (BitVec.ofInt 8 (IntKind.u8.wrap (IntKind.u64.wrap (BitVec.ofInt 64 ((m:Nat):Int) &&& BitVec.ofInt 64 127).toNat)) ||| BitVec.ofInt 8 128).toNat])] aw
  have ay:=EnvOk.pick av (ks:=[0,6,10,12]) (env':=[(0,.v (.int .u64 ((m:Nat):Int))),(6,.v (.slice A pre.length c)),(10,.v (.int .u8 (IntKind.u8.wrap (BitVec.ofInt 8 (IntKind.u8.wrap (IntKind.u64.wrap (BitVec.ofInt 64 ((m:Nat):Int) &&& BitVec.ofInt 64 127).toNat)) ||| BitVec.ofInt 8 128).toNat))),(12,.v (.slice ab (pre.length + 1) ac))]) kz
  have aA:=ay.cast (env':=[(0,.v (.int .u64 ((m:Nat):Int))),(6,.v (.slice A pre.length c)),(10,.v (.int .u8 (IntKind.u8.wrap (BitVec.ofInt 8 (IntKind.u8.wrap (IntKind.u64.wrap (BitVec.ofInt 64 ((m:Nat):Int) &&& BitVec.ofInt 64 127).toNat)) ||| BitVec.ofInt 8 128).toNat))),(12,.v (.slice ab ((pre ++ [by8 (BitVec.ofInt 8 (IntKind.u8.wrap (IntKind.u64.wrap (BitVec.ofInt 64 ((m:Nat):Int) &&& BitVec.ofInt 64 127).toNat)) ||| BitVec.ofInt 8 128).toNat]).length) ac))]) (by simp only [List.length_append,List.length_cons,List.length_nil,Nat.zero_add])
  refine qak [7] [] [(0,.v (.int .u64 ((m:Nat):Int))),(3,.v (.slice ab ((pre ++ [by8 (BitVec.ofInt 8 (IntKind.u8.wrap (IntKind.u64.wrap (BitVec.ofInt 64 ((m:Nat):Int) &&& BitVec.ofInt 64 127).toNat)) ||| BitVec.ofInt 8 128).toNat]).length) ac))] ag aA fun aW aB=>?_
  refine qae (qaa ?_)
  refine qap [0,1,2] kz ?_
  refine qak [0,1,2] [] [(0,.v (.int .u64 (Int.fdiv ((m:Nat):Int) 128))),(3,.v (.slice ab ((pre ++ [by8 (BitVec.ofInt 8 (IntKind.u8.wrap (IntKind.u64.wrap (BitVec.ofInt 64 ((m:Nat):Int) &&& BitVec.ofInt 64 127).toNat)) ||| BitVec.ofInt 8 128).toNat]).length) ac))] ag aB fun aX ah=>?_
  refine qae ?_
  refine qas ?_
  refine qaa ?_
  have al:(pre ++ [by8 (BitVec.ofInt 8 (IntKind.u8.wrap (IntKind.u64.wrap (BitVec.ofInt 64 ((m:Nat):Int) &&& BitVec.ofInt 64 127).toNat)) ||| BitVec.ofInt 8 128).toNat]) = (pre ++ [UInt8.ofNat (m % 128 + 128)]):=by rw [qjo m (by omega)]
  have aC:=congrArg (brow ab ac 5) al
  obtain ⟨aD,aE⟩:=ag.rowEq 0 [brow ab ac 5 (pre ++ [UInt8.ofNat (m % 128 + 128)])] aC
  rw [al] at ah
  have aF:Int.fdiv ((m:Nat):Int) 128 = ((m / 128:Nat):Int):=qkd m
  rw [aF] at ah
  exact ⟨m / 128,by omega,ab,ac,pre ++ [UInt8.ofNat (m % 128 + 128)],m / 128,rfl,by rw [← hp,qeq (show 128 ≤ m by omega)]; simp,by omega,ah.pk,aD,(((ao.trans ar).trans ax).trans aE)⟩
 have aP:=of_decide_eq_false af
 refine wp_exit ?_
 refine qar ?_
 refine qar ?_
 refine qaE ?_
 refine qaa ?_
 refine qad [0,1,2,3,4,5] kz ?_
 refine qak [0,1,2] [3,4,5] [(15,.v (.slice A pre.length c)),(17,.v (.int .u8 (IntKind.u8.wrap ((m:Nat):Int))))] aa ae fun aY aG=>?_
 refine qbl aa aG (k:=0) (e:=5) (size:=1) (len:=1) (cs:=[.int .u8 (IntKind.u8.wrap ((m:Nat):Int))]) (d1:=18) (d:=19) kz (t:=22) (bytes:=1) kz (fun _=>by kernel_rfl) rfl kz (by have h1_:=qes x hx; rw [← hp,List.length_append] at h1_; omega) fun ai aj aZ ba aQ aH ⟨_,aI⟩=>?_
 have aJ:(⟨ai,aj,5,1,pre.length + 1,bc pre ++ [.int .u8 (IntKind.u8.wrap ((m:Nat):Int))]⟩:Rw) = brow ai aj 5 (pre ++ [by8 ((m:Nat):Int)]):=qbr (by simp only [bc,List.map,qbT]; try rfl) rfl
 obtain ⟨ak,aR⟩:=aH.rowEq 0 [brow ai aj 5 (pre ++ [by8 ((m:Nat):Int)])] aJ
 have aK:=EnvOk.pick aI (ks:=[15,17,19]) (env':=[(15,.v (.slice A pre.length c)),(17,.v (.int .u8 (IntKind.u8.wrap ((m:Nat):Int)))),(19,.v (.slice ai (pre.length + 1) aj))]) kz
 have aL:=aK.cast (env':=[(15,.v (.slice A pre.length c)),(17,.v (.int .u8 (IntKind.u8.wrap ((m:Nat):Int)))),(19,.v (.slice ai ((pre ++ [by8 ((m:Nat):Int)]).length) aj))]) (by simp only [List.length_append,List.length_cons,List.length_nil,Nat.zero_add])
 refine qak [5] [] [(2,.v (.slice ai ((pre ++ [by8 ((m:Nat):Int)]).length) aj))] ak aL fun bd aM=>?_
 refine qae (qaa ?_)
 refine wp_ret ?_
 refine qaV aM ak.cells (v:=.slice ai ((pre ++ [by8 ((m:Nat):Int)]).length) aj) kz ?_
 exact qbd ak (k:=0) rfl (by rw [← hp,qb3 (show m < 128 by omega),qfR])
theorem qdX (flex null:Bool) (m sz:Nat) (hm:m ≤ 1099511627776) (hsz:sz ≤ 8) (w:World) :
  Calls Tryz.prog 64 #[.bool flex,.bool null,.int .i64 ((m:Nat):Int),.int .i64 ((sz:Nat):Int)] w (qdr w 5 (qan flex null m sz)):=by
 refine enter (n:=28) Tryz.func64 rfl Tryz.ntmps64 kz fun a hE=>?_
 have hW:=WOk.start w Nil
 refine qaz [(0,.v (.bool flex)),(1,.v (.bool null)),(2,.v (.int .i64 ((m:Nat):Int))),(3,.v (.int .i64 ((sz:Nat):Int)))] hW hE fun a1 hE2=>?_
 refine wp_seq ?_
 refine wp_block ?_
 refine qad [0,1,2,3,4] kz ?_
 refine qak [0,1] [2,3,4] [(0,.v (.bool flex)),(1,.v (.bool null)),(2,.v (.int .i64 ((m:Nat):Int))),(3,.v (.int .i64 ((sz:Nat):Int))),(11,.v (.bool flex))] hW hE2 fun a3 hE4=>?_
 refine (Bool.eq_false_or_eq_true (flex)).elim (fun hc5=>?_) (fun hc5=>?_)
 ·
  have hE7:=hE4.cast (env':=[(0,.v (.bool true)),(1,.v (.bool null)),(2,.v (.int .i64 ((m:Nat):Int))),(3,.v (.int .i64 ((sz:Nat):Int))),(11,.v (.bool true))]) (by rw [hc5])
  refine qak [2,3,4] [] [(0,.v (.bool true)),(1,.v (.bool null)),(2,.v (.int .i64 ((m:Nat):Int))),(3,.v (.int .i64 ((sz:Nat):Int))),(9,.v (.bool null))] hW hE7 fun a8 hE9=>?_
  refine qae (qaa ?_)
  refine qau hE9 (b:=null) kz (fun aa=>?_) (fun aa=>?_)
  ·
   refine qad [0,1] kz ?_
   refine qah (qb1 hW hE9 (e:=5) (size:=1) (len:=1) (cs:=[.int .u8 0]) (d:=14) kz kz fun ab bg bh aW aX aY am ao=>?_)
   have ap:(⟨some ⟨ab,0,none⟩,1,5,1,1,[.int .u8 0]⟩:Rw) = brow (some ⟨ab,0,none⟩) 1 5 [by8 0]:=by first | rfl | (simp only [brow,bc,List.map,qbT]; try rfl)
   obtain ⟨ac,aZ⟩:=am.rowEq 0 [brow (some ⟨ab,0,none⟩) 1 5 [by8 0]] ap
   have ar:=EnvOk.pick ao (ks:=[0,1,2,3,9,14]) (env':=[(0,.v (.bool true)),(1,.v (.bool null)),(2,.v (.int .i64 ((m:Nat):Int))),(3,.v (.int .i64 ((sz:Nat):Int))),(9,.v (.bool null)),(14,.v (.slice (some ⟨ab,0,none⟩) 1 1))]) kz
   have au:=ar.cast (env':=[(0,.v (.bool true)),(1,.v (.bool null)),(2,.v (.int .i64 ((m:Nat):Int))),(3,.v (.int .i64 ((sz:Nat):Int))),(9,.v (.bool null)),(14,.v (.slice (some ⟨ab,0,none⟩) ([by8 0].length) 1))]) rfl
   refine qak [1] [] [(8,.v (.slice (some ⟨ab,0,none⟩) ([by8 0].length) 1))] ac au fun bi av=>?_
   refine qae (qaa ?_)
   refine wp_ret ?_
   refine qaR ?_
   refine qaB ?_
   refine qaV av ac.cells (v:=.slice (some ⟨ab,0,none⟩) ([by8 0].length) 1) kz ?_
   exact qbd ac (k:=0) rfl (by simp [qan,hc5,aa]; try rfl)
  refine qaz [(1,.v (.bool null)),(2,.v (.int .i64 ((m:Nat):Int))),(3,.v (.int .i64 ((sz:Nat):Int))),(15,.v (.bool true))] hW hE9 fun bj aj=>?_
  refine qcS aj (b:=true) kz rfl ?_
  refine qad [0,1,2,3,4] kz ?_
  refine qak [0,1,2] [3,4] [(19,.v (.int .u64 (IntKind.u64.wrap ((IntKind.u64.wrap ((m:Nat):Int)) + 1))))] hW aj fun bk aw=>?_
  have ax:IntKind.u64.wrap ((IntKind.u64.wrap ((m:Nat):Int)) + 1) = ((m + 1:Nat):Int):=by simp only [qc0,qcc,qdi,IntKind.wrap_i64,IntKind.wrap_i32]; omega
  have ay:=EnvOk.pick aw (ks:=[19]) (env':=[(19,.v (.int .u64 (IntKind.u64.wrap ((IntKind.u64.wrap ((m:Nat):Int)) + 1))))]) kz
  have aA:=ay.cast (env':=[(19,.v (.int .u64 ((m + 1:Nat):Int)))]) (by rw [ax])
  refine qah (qai aA (f:=54) (vs:=[.int .u64 ((m + 1:Nat):Int)]) (d:=20) kz Tryz.call54 (qdW (m + 1) (by omega) _) ?_)
  rintro e_ bn ⟨aB,aC,rfl,aD,aE⟩
  refine ⟨_,rfl,fun bp aF=>?_⟩
  obtain ⟨ae,ba⟩:=hW.frFresh aE (brow aB aC 5 (uv (m + 1))) (Nat.le_refl _) aD
  refine qak [4] [] [(8,.v (.slice aB ((uv (m + 1)).length) aC))] ae aF fun bq aG=>?_
  refine qae (qaa ?_)
  refine wp_ret ?_
  refine qaR ?_
  refine qaB ?_
  refine qaV aG ae.cells (v:=.slice aB ((uv (m + 1)).length) aC) kz ?_
  exact qbd ae (k:=0) rfl (by simp [qan,hc5,aa]; try rfl)
 have aH:=hE4.cast (env':=[(0,.v (.bool false)),(1,.v (.bool null)),(2,.v (.int .i64 ((m:Nat):Int))),(3,.v (.int .i64 ((sz:Nat):Int))),(11,.v (.bool false))]) (by rw [hc5])
 refine qak [2,3,4] [] [(0,.v (.bool false)),(1,.v (.bool null)),(2,.v (.int .i64 ((m:Nat):Int))),(3,.v (.int .i64 ((sz:Nat):Int))),(9,.v (.bool false))] hW aH fun br ak=>?_
 refine qae (qaa ?_)
 refine qbx ak (b:=false) kz rfl ?_
 refine qaz [(1,.v (.bool null)),(2,.v (.int .i64 ((m:Nat):Int))),(3,.v (.int .i64 ((sz:Nat):Int))),(15,.v (.bool false))] hW ak fun bt al=>?_
 refine qbx al (b:=false) kz rfl ?_
 refine qaz [(2,.v (.int .i64 ((m:Nat):Int))),(3,.v (.int .i64 ((sz:Nat):Int))),(21,.v (.bool null))] hW al fun bu af=>?_
 refine qau af (b:=null) kz (fun ag=>?_) (fun ag=>?_)
 ·
  refine qad [0,1,2] kz ?_
  refine qak [0] [1,2] [(23,.v (.int .i64 ((sz:Nat):Int)))] hW af fun bv aI=>?_
  refine qah (qai aI (f:=66) (vs:=[.int .i64 (-1),.int .i64 ((sz:Nat):Int)]) (d:=24) kz Tryz.call66 (qfj (-1) sz (by first | decide | exact qbW _ | omega) _) ?_)
  rintro e_ bw ⟨aJ,aK,rfl,aL,aM⟩
  refine ⟨_,rfl,fun bz aN=>?_⟩
  obtain ⟨ah,bd⟩:=hW.frFresh aM (brow aJ aK 5 (be sz (-1))) (Nat.le_refl _) aL
  refine qak [2] [] [(8,.v (.slice aJ ((be sz (-1)).length) aK))] ah aN fun bA aO=>?_
  refine qae (qaa ?_)
  refine wp_ret ?_
  refine qaR ?_
  refine qaB ?_
  refine qaV aO ah.cells (v:=.slice aJ ((be sz (-1)).length) aK) kz ?_
  exact qbd ah (k:=0) rfl (by simp [qan,hc5,ag]; try rfl)
 refine wp_skip ?_
 refine qas ?_
 refine qaa ?_
 refine qad [0,1,2,3] kz ?_
 refine qak [0,1] [2,3] [(25,.v (.int .i64 ((m:Nat):Int))),(26,.v (.int .i64 ((sz:Nat):Int)))] hW af fun bB aP=>?_
 refine qah (qai aP (f:=66) (vs:=[.int .i64 ((m:Nat):Int),.int .i64 ((sz:Nat):Int)]) (d:=27) kz Tryz.call66 (qfj ((m:Nat):Int) sz (by first | decide | exact qbW _ | omega) _) ?_)
 rintro e_ bC ⟨aQ,aR,rfl,aS,aT⟩
 refine ⟨_,rfl,fun bD aU=>?_⟩
 obtain ⟨ai,bf⟩:=hW.frFresh aT (brow aQ aR 5 (be sz ((m:Nat):Int))) (Nat.le_refl _) aS
 refine qak [3] [] [(8,.v (.slice aQ ((be sz ((m:Nat):Int)).length) aR))] ai aU fun bE aV=>?_
 refine qae (qaa ?_)
 refine wp_ret ?_
 refine qaV aV ai.cells (v:=.slice aQ ((be sz ((m:Nat):Int)).length) aR) kz ?_
 exact qbd ai (k:=0) rfl (by simp [qan,hc5,ag]; try rfl)
theorem qj2 (A:Option Addr) (c:Nat) (l:List Fld) (w:World) (F:Nat → Nat → Prop) (hl:FldsR w F A c l) :
  Calls Tryz.prog 50 #[.slice A l.length c] w (qdu w (.int .u32 (qaq l))):=by
 obtain ⟨xfs,h1,h2⟩:=hl.ex
 have hsm:=h1.small
 refine enter (n:=23) Tryz.func50 rfl Tryz.ntmps50 kz fun a hE=>?_
 have hW:=WOk.start w Nil
 refine qaz [(0,.v (.slice A l.length c))] hW hE fun a1 hE2=>?_
 refine qaz [(0,.v (.slice A l.length c)),(3,.v (.int .u32 0))] hW hE2 fun a3 hE4=>?_
 refine wp_seq ?_
 refine qaz [(3,.v (.int .u32 0)),(6,.v (.slice A l.length c)),(7,.v (.int .i64 ((l.length:Nat):Int))),(8,.v (.int .i64 0))] hW hE4 fun a5 hE6=>?_
 refine wp_block ?_
 refine wp_loop_ghost (fun n_ a_ w_=>∃ (k:Nat),n_ = l.length - k ∧ k ≤ l.length ∧ LInv hW 23 [] [] [(3,.v (.int .u32 (qaq (l.take k)))),(6,.v (.slice A l.length c)),(7,.v (.int .i64 ((l.length:Nat):Int))),(8,.v (.int .i64 ((k:Nat):Int)))] a_ w_) (l.length) ⟨0,by omega,by omega,hE6.pk,hW,Fr.refl _ _ _⟩ ?_
 rintro n7 a8 w9 ⟨k,bd,bf,av,aa,ao⟩
 refine qaz [(3,.v (.int .u32 (qaq (l.take k)))),(6,.v (.slice A l.length c)),(7,.v (.int .i64 ((l.length:Nat):Int))),(8,.v (.int .i64 ((k:Nat):Int))),(9,.v (.bool (decide (((k:Nat):Int) < ((l.length:Nat):Int)))))] aa av fun bu ag=>?_
 refine wp_seq ?_
 refine qau ag (b:=decide (((k:Nat):Int) < ((l.length:Nat):Int))) kz (fun ah=>?_) (fun ah=>?_)
 ·
  have bg:=of_decide_eq_true ah
  refine wp_skip ?_
  refine qaa ?_
  refine wp_seq ?_
  refine wp_block ?_
  refine qad [0,1,2,3] kz ?_
  obtain ⟨bh,bi,aw,bj,ae⟩:=Slots.get h1 (i:=k) (by omega)
  obtain ⟨bk,ai⟩:∃ x,l[k]? = some x:=⟨_,List.getElem?_eq_getElem (by omega)⟩
  have ap:=h2 k bk ai
  obtain ⟨ax,ay,aA,aB,ab,aC,aD,aE,aF,aG,bn,rfl,af,bp,bv⟩:=ap.open_
  rw [af] at ap
  have ba:=bp.small
  rw [af] at ae
  refine qah (qaM ag (t:=29) (A:=A) (m:=l.length) (q:=((k:Nat):Int)) (d:=10) kz (e:=50) (size:=8) (bytes:=80) kz aw rfl (by omega) fun bw aH=>?_)
  refine qah (qa0 aH (t:=50) (b:=bh) (o:=bi + k * 8) (d:=11) kz (cs:=[.int .i64 ax,.int .i64 ay,.int .i64 aA,.int .i64 aB,.int .i64 ab,.int .i64 aC,.int .i64 aD,.slice aF aE.length aG]) (v:=.agg #[.int .i64 ax,.int .i64 ay,.int .i64 aA,.int .i64 aB,.int .i64 ab,.int .i64 aC,.int .i64 aD,.slice aF aE.length aG]) kz (AtF.move ae aa.step nilM qco).at_ fun bz aI=>?_)
  refine qah (qaw aa aI (d:=5) (cs:=[.int .i64 0,.int .i64 0,.int .i64 0,.int .i64 0,.int .i64 0,.int .i64 0,.int .i64 0,.slice none 0 0]) kz fun bA bB bC bq br ar aJ aK=>?_)
  refine qah (qaj aJ aK (oi:=0) (cs:=[.int .i64 ax,.int .i64 ay,.int .i64 aA,.int .i64 aB,.int .i64 ab,.int .i64 aC,.int .i64 aD,.slice aF aE.length aG]) kz fun bD au ac aL=>?_)
  refine qae (qaa ?_)
  refine qaz [(3,.v (.int .u32 (qaq (l.take k)))),(5,.p 0 0),(6,.v (.slice A l.length c)),(7,.v (.int .i64 ((l.length:Nat):Int))),(8,.v (.int .i64 ((k:Nat):Int))),(14,.v (.bool (decide (ab ≥ 0))))] ac aL fun bE aj=>?_
  refine qau aj (b:=decide (ab ≥ 0)) kz (fun ak=>?_) (fun ak=>?_)
  ·
   have aM:=of_decide_eq_true ak
   refine qap [0,1,2,3,4,5,6] kz ?_
   refine qak [0,1,2,3,4,5,6] [] [(3,.v (.int .u32 (if IntKind.u32.wrap ((IntKind.u32.wrap ab) + 1) > qaq (l.take k) then IntKind.u32.wrap ((IntKind.u32.wrap ab) + 1) else qaq (l.take k)))),(6,.v (.slice A l.length c)),(7,.v (.int .i64 ((l.length:Nat):Int))),(8,.v (.int .i64 ((k:Nat):Int)))] ac aj fun bF aN=>?_
   refine qae ?_
   refine qas ?_
   refine qaa ?_
   refine qap [0,1] kz ?_
   refine qak [0,1] [] [(3,.v (.int .u32 (if IntKind.u32.wrap ((IntKind.u32.wrap ab) + 1) > qaq (l.take k) then IntKind.u32.wrap ((IntKind.u32.wrap ab) + 1) else qaq (l.take k)))),(6,.v (.slice A l.length c)),(7,.v (.int .i64 ((l.length:Nat):Int))),(8,.v (.int .i64 (IntKind.i64.wrap (((k:Nat):Int) + 1))))] ac aN fun bG aO=>?_
   refine qae (qaa ?_)
   obtain ⟨al,aP,aQ⟩:=ac.cutB aO 0 [] [(3,.v (.int .u32 (if IntKind.u32.wrap ((IntKind.u32.wrap ab) + 1) > qaq (l.take k) then IntKind.u32.wrap ((IntKind.u32.wrap ab) + 1) else qaq (l.take k)))),(6,.v (.slice A l.length c)),(7,.v (.int .i64 ((l.length:Nat):Int))),(8,.v (.int .i64 (IntKind.i64.wrap (((k:Nat):Int) + 1))))]
   have aR:IntKind.i64.wrap (((k:Nat):Int) + 1) = ((k + 1:Nat):Int):=qaN (by omega)
   rw [aR] at al
   have aS:(if IntKind.u32.wrap ((IntKind.u32.wrap ab) + 1) > qaq (l.take k) then IntKind.u32.wrap ((IntKind.u32.wrap ab) + 1) else qaq (l.take k)) = qaq (l.take (k + 1)):=qii ai aM
   rw [aS] at al
   exact ⟨l.length - (k + 1),by omega,k + 1,rfl,by omega,al.pk,aP,(((ao.trans ar).trans au).trans aQ)⟩
  have aT:=of_decide_eq_false ak
  refine wp_skip ?_
  refine qas ?_
  refine qaa ?_
  refine qap [0,1] kz ?_
  refine qak [0,1] [] [(3,.v (.int .u32 (qaq (l.take k)))),(6,.v (.slice A l.length c)),(7,.v (.int .i64 ((l.length:Nat):Int))),(8,.v (.int .i64 (IntKind.i64.wrap (((k:Nat):Int) + 1))))] ac aj fun bH aU=>?_
  refine qae (qaa ?_)
  obtain ⟨am,aV,aW⟩:=ac.cutB aU 0 [] [(3,.v (.int .u32 (qaq (l.take k)))),(6,.v (.slice A l.length c)),(7,.v (.int .i64 ((l.length:Nat):Int))),(8,.v (.int .i64 (IntKind.i64.wrap (((k:Nat):Int) + 1))))]
  have aX:IntKind.i64.wrap (((k:Nat):Int) + 1) = ((k + 1:Nat):Int):=qaN (by omega)
  rw [aX] at am
  have aY:qaq (l.take k) = qaq (l.take (k + 1)):=qij ai aT
  rw [aY] at am
  exact ⟨l.length - (k + 1),by omega,k + 1,rfl,by omega,am.pk,aV,(((ao.trans ar).trans au).trans aW)⟩
 have bt:=of_decide_eq_false ah
 refine wp_exit ?_
 refine qar ?_
 refine qar ?_
 refine qaE ?_
 refine qaa ?_
 refine qaz [(2,.v (.int .u32 (qaq (l.take k))))] aa ag fun bI aZ=>?_
 refine wp_ret ?_
 refine qaV aZ aa.cells (v:=.int .u32 (qaq (l.take k))) kz ?_
 exact ⟨by rw [List.take_of_length_le (by omega)],aa.step⟩
def qi4 (d:Nat):Prop:=∀ (A:Option Addr) (c:Nat) (l:List Fld) (v:Int) (flex:Bool) (ct:List Value) (t:Tree) (w:World) (F:Nat → Nat → Prop),FldsR w F A c l → depths l ≤ d → TreeR w F ct t → (qaX d l v flex t).length ≤ 1099511627776 →
  Calls Tryz.prog 25 #[.slice A l.length c,.int .i64 v,.bool flex,.agg ct.toArray] w (qdr w 5 (qaX d l v flex t))
theorem qi5 {d:Nat} (hp:qi4 d) (kind:Int) (A:Option Addr) (c:Nat) (l:List Fld) (null:Bool) (v:Int) (flex:Bool) (ct:List Value) (t:Tree) (w:World) (F:Nat → Nat → Prop) (hl:FldsR w F A c l) (hd:depths l ≤ d) (ht:TreeR w F ct t) (hroom:(qaL (qaX d l v flex) kind null flex t).length ≤ 1099511627776) :
  Calls Tryz.prog 65 #[.int .i64 kind,.slice A l.length c,.bool null,.int .i64 v,.bool flex,.agg ct.toArray] w (qdr w 5 (qaL (qaX d l v flex) kind null flex t)):=by
 obtain ⟨n1,s2,b3,l4,u5,A6,c7,A8,c9,c5,c8,dX,rfl,rfl,aY,dY,fi,fj⟩:=ht.open_
 have dF:=aY.small
 have dG:=dY.small
 have hl0:=hl
 obtain ⟨xfs,h1,h2⟩:=hl.ex
 have hsm:=h1.small
 refine enter (n:=70) Tryz.func65 rfl Tryz.ntmps65 kz fun a hE=>?_
 have hW:=WOk.start w Nil
 refine qad [0,1] kz ?_
 refine qah (qa9 hW hE (d:=11) (cs:=[.int .i64 n1,.slice A6 s2.length c7,.bool b3,.slice A8 l4.length c9,.slice c5 u5.length c8]) kz fun fk fl fm dZ d4 d5 aa da=>?_)
 refine qak [1] [] [(0,.v (.int .i64 kind)),(1,.v (.slice A l.length c)),(2,.v (.bool null)),(3,.v (.int .i64 v)),(4,.v (.bool flex)),(11,.p 0 0)] aa da fun fo db=>?_
 refine qae (qaa ?_)
 refine wp_seq ?_
 refine qaz [(0,.v (.int .i64 kind)),(1,.v (.slice A l.length c)),(2,.v (.bool null)),(3,.v (.int .i64 v)),(4,.v (.bool flex)),(11,.p 0 0),(16,.v (.int .i64 kind))] aa db fun fp dc=>?_
 refine wp_block ?_
 refine qaz [(0,.v (.int .i64 kind)),(1,.v (.slice A l.length c)),(2,.v (.bool null)),(3,.v (.int .i64 v)),(4,.v (.bool flex)),(11,.p 0 0),(16,.v (.int .i64 kind)),(17,.v (.bool (kind == 0)))] aa dc fun fq bn=>?_
 refine qau bn (b:=kind == 0) kz (fun ac=>?_) (fun ac=>?_)
 ·
  have de:kind = 0:=by simpa using ac
  refine qad [0,1,2,3,4,5] kz ?_
  refine qak [0,1,2,3] [4,5] [(22,.v (.int .u8 (IntKind.u8.wrap (IntKind.i64.wrap (BitVec.ofInt 64 n1 &&& BitVec.ofInt 64 1).toNat))))] aa bn fun fr df=>?_
  refine qah (qb1 aa df (e:=5) (size:=1) (len:=1) (cs:=[.int .u8 (IntKind.u8.wrap (IntKind.i64.wrap (BitVec.ofInt 64 n1 &&& BitVec.ofInt 64 1).toNat))]) (d:=23) kz kz fun bp ft fu d6 d7 d8 dg dh=>?_)
  have di:(⟨some ⟨bp,0,none⟩,1,5,1,1,[.int .u8 (IntKind.u8.wrap (IntKind.i64.wrap (BitVec.ofInt 64 n1 &&& BitVec.ofInt 64 1).toNat))]⟩:Rw) = brow (some ⟨bp,0,none⟩) 1 5 [by8 (IntKind.i64.wrap (BitVec.ofInt 64 n1 &&& BitVec.ofInt 64 1).toNat)]:=by first | rfl | (simp only [brow,bc,List.map,qbT]; try rfl)
  obtain ⟨bq,d9⟩:=dg.rowEq 0 [brow (some ⟨bp,0,none⟩) 1 5 [by8 (IntKind.i64.wrap (BitVec.ofInt 64 n1 &&& BitVec.ofInt 64 1).toNat)]] di
  have dj:=EnvOk.pick dh (ks:=[22,23]) (env':=[(22,.v (.int .u8 (IntKind.u8.wrap (IntKind.i64.wrap (BitVec.ofInt 64 n1 &&& BitVec.ofInt 64 1).toNat)))),(23,.v (.slice (some ⟨bp,0,none⟩) 1 1))]) kz
  have dl:=dj.cast (env':=[(22,.v (.int .u8 (IntKind.u8.wrap (IntKind.i64.wrap (BitVec.ofInt 64 n1 &&& BitVec.ofInt 64 1).toNat)))),(23,.v (.slice (some ⟨bp,0,none⟩) ([by8 (IntKind.i64.wrap (BitVec.ofInt 64 n1 &&& BitVec.ofInt 64 1).toNat)].length) 1))]) rfl
  refine qak [5] [] [(12,.v (.slice (some ⟨bp,0,none⟩) ([by8 (IntKind.i64.wrap (BitVec.ofInt 64 n1 &&& BitVec.ofInt 64 1).toNat)].length) 1))] bq dl fun fv dp=>?_
  refine qae (qaa ?_)
  refine wp_ret ?_
  refine qaR ?_
  refine qaB ?_
  refine qaV dp bq.cells (v:=.slice (some ⟨bp,0,none⟩) ([by8 (IntKind.i64.wrap (BitVec.ofInt 64 n1 &&& BitVec.ofInt 64 1).toNat)].length) 1) kz ?_
  exact qbd bq (k:=0) rfl (by (try simp only [and1]); simp [qaL,Tree.S,Tree.N,de,ac])
 have ak:kind ≠ 0:=by simpa using ac
 refine qaz [(0,.v (.int .i64 kind)),(1,.v (.slice A l.length c)),(2,.v (.bool null)),(3,.v (.int .i64 v)),(4,.v (.bool flex)),(11,.p 0 0),(16,.v (.int .i64 kind)),(24,.v (.bool (kind == 7)))] aa bn fun fw br=>?_
 refine qau br (b:=kind == 7) kz (fun ae=>?_) (fun ae=>?_)
 ·
  have dq:kind = 7:=by simpa using ae
  refine qad [0,1] kz ?_
  refine qah (qhH aa br (d:=26) (j:=16) (t:=22) (e:=5) (bytes:=1) (z:=.int .u8 0) kz kz kz kz (rfl) (rfl) (by omega) fun aC fx fy ea eb ec aD dr=>?_)
  refine qak [1] [] [(11,.p 0 0),(13,.v (.slice (some ⟨aC,0,none⟩) 16 16))] aD dr fun fz dt=>?_
  refine qae (qaa ?_)
  refine qad [0,1,2,3] kz ?_
  refine qak [0,1,2] [3] [(13,.v (.slice (some ⟨aC,0,none⟩) 16 16)),(27,.v (.slice (some ⟨aC,0,none⟩) 16 16)),(29,.v (.slice A6 s2.length c7))] aD dt fun fA du=>?_
  refine qah (qhG aD du (k:=0) (d:=30) (t:=22) (u:=22) (e:=5) (bytes:=1) (A:=(some ⟨aC,0,none⟩)) (As:=A6) (m:=s2.length) (cs:=c7) (m0:=16) (c:=16) (xs:=(List.replicate 16 (.int .u8 0))) (news:=bc s2) kz kz rfl (aY.move aD.step nilM aD.imm).src fun fB fC ee dv dw=>?_)
  have dx:(⟨(some ⟨aC,0,none⟩),16,5,1,16,qbB (List.replicate 16 (.int .u8 0)) 0 ((bc s2).take (min s2.length 16))⟩:Rw) = brow (some ⟨aC,0,none⟩) 16 5 (qel s2):=qjq _ _ _
  obtain ⟨bt,ef⟩:=dv.rowEq 0 [brow (some ⟨aC,0,none⟩) 16 5 (qel s2)] dx
  have dy:=EnvOk.pick dw (ks:=[13,27,29,30]) (env':=[(13,.v (.slice (some ⟨aC,0,none⟩) 16 16)),(27,.v (.slice (some ⟨aC,0,none⟩) 16 16)),(29,.v (.slice A6 s2.length c7)),(30,.v (.int .i64 ((min s2.length 16:Nat):Int)))]) kz
  have dA:=dy.cast (env':=[(13,.v (.slice (some ⟨aC,0,none⟩) ((qel s2).length) 16)),(27,.v (.slice (some ⟨aC,0,none⟩) ((qel s2).length) 16)),(29,.v (.slice A6 s2.length c7)),(30,.v (.int .i64 ((min s2.length 16:Nat):Int)))]) (by rw [qb7 _])
  refine qae (qaa ?_)
  refine qaz [(12,.v (.slice (some ⟨aC,0,none⟩) ((qel s2).length) 16))] bt dA fun fD dB=>?_
  refine wp_ret ?_
  refine qaR ?_
  refine qaB ?_
  refine qaV dB bt.cells (v:=.slice (some ⟨aC,0,none⟩) ((qel s2).length) 16) kz ?_
  exact qbd bt (k:=0) rfl (by (try simp only [and1]); simp [qaL,Tree.S,Tree.N,ak,dq,ac,ae])
 have am:kind ≠ 7:=by simpa using ae
 refine qaz [(0,.v (.int .i64 kind)),(1,.v (.slice A l.length c)),(2,.v (.bool null)),(3,.v (.int .i64 v)),(4,.v (.bool flex)),(11,.p 0 0),(16,.v (.int .i64 kind)),(32,.v (.bool (kind == 8)))] aa br fun fE bu=>?_
 refine qau bu (b:=kind == 8) kz (fun ag=>?_) (fun ag=>?_)
 ·
  have bB:kind = 8:=by simpa using ag
  refine qad [0,1,2,3] kz ?_
  refine qak [0,1] [2,3] [(2,.v (.bool null)),(4,.v (.bool flex)),(35,.v (.slice A6 s2.length c7))] aa bu fun fF dC=>?_
  have dH:=qbn s2
  refine qah (qai dC (f:=24) (vs:=[.slice A6 s2.length c7]) (d:=36) kz Tryz.call24 (qfF _ _ s2 (aY.move aa.step nilM aa.imm).le _) ?_)
  rintro e_ fG ⟨rfl,bC⟩
  refine ⟨_,rfl,fun fH dD=>?_⟩
  have ao:=aa.next_nil bC
  have eg:=aa.frN bC
  refine qak [3] [] [(2,.v (.bool null)),(4,.v (.bool flex)),(14,.v (.slice A6 ((qay s2).length) c7))] ao dD fun fI bD=>?_
  refine qae (qaa ?_)
  refine wp_seq ?_
  refine qaz [(2,.v (.bool null)),(4,.v (.bool flex)),(14,.v (.slice A6 ((qay s2).length) c7)),(37,.v (.bool null))] ao bD fun eh aE=>?_
  refine qau aE (b:=null) kz (fun aF=>?_) (fun aF=>?_)
  ·
   refine qap [0] kz ?_
   refine qak [0] [] [(2,.v (.bool null)),(4,.v (.bool flex)),(14,.v (.slice none 0 0))] ao aE fun ei bE=>?_
   refine qae (qaa ?_)
   refine qad [0,1,2,3,4,5,6,7] kz ?_
   refine qak [0,1,2,3] [4,5,6,7] [(14,.v (.slice none 0 0)),(38,.v (.bool flex)),(39,.v (.bool null)),(41,.v (.int .i64 0))] ao bE fun ej bF=>?_
   refine qah (qai bF (f:=64) (vs:=[.bool flex,.bool null,.int .i64 0,.int .i64 2]) (d:=42) kz Tryz.call64 (qdX flex null 0 2 (by first | omega | exact Nat.le_trans (qbn _) (by decide) | exact Nat.le_trans (qci _) (by decide) | (simp; done) | (have:=hroom; omega)) (by first | decide | omega) _) ?_)
   rintro e_ ek ⟨aG,aH,rfl,bG,bH⟩
   refine ⟨_,rfl,fun em bI=>?_⟩
   obtain ⟨aZ,dI⟩:=ao.frFresh bH (brow aG aH 5 (qan flex null 0 2)) (Nat.le_refl _) bG
   refine qak [5] [6,7] [(42,.v (.slice aG ((qan flex null 0 2).length) aH)),(43,.v (.slice none 0 0))] aZ bI fun eo bJ=>?_
   refine qah (qaU aZ bJ (k:=0) (d:=44) (t:=22) (e:=5) (size:=1) (bytes:=1) (A:=aG) (As:=none) (m0:=((qan flex null 0 2).length)) (c:=aH) (m:=0) (cs:=0) (xs:=(bc (qan flex null 0 2))) (news:=bc ([]:Bs)) kz kz rfl (Octs.nil _ (fun _ _=>True)).src (fun _=>rfl) (by first | exact qdB (by omega) (by decide) (by omega) | exact qdB (Nat.le_trans (qbn _) (by decide)) (by decide) (Nat.le_trans (qbn _) (by decide)) | (simp; done)) fun ap ar ep eu dJ bK bL=>?_)
   have bM:(⟨ap,ar,5,1,(qan flex null 0 2).length + 0,bc (qan flex null 0 2) ++ bc ([]:Bs)⟩:Rw) = brow ap ar 5 (qan flex null 0 2 ++ ([]:Bs)):=qbr (rfl) rfl
   obtain ⟨aI,dK⟩:=bK.rowEq 0 [brow ap ar 5 (qan flex null 0 2 ++ ([]:Bs))] bM
   have bN:=EnvOk.pick bL (ks:=[42,43,44]) (env':=[(42,.v (.slice aG ((qan flex null 0 2).length) aH)),(43,.v (.slice none 0 0)),(44,.v (.slice ap ((qan flex null 0 2).length + 0) ar))]) kz
   have bO:=bN.cast (env':=[(42,.v (.slice aG ((qan flex null 0 2).length) aH)),(43,.v (.slice none 0 0)),(44,.v (.slice ap ((qan flex null 0 2 ++ ([]:Bs)).length) ar))]) (by simp only [List.length_append,List.length_cons,List.length_nil,Nat.zero_add])
   refine qak [7] [] [(12,.v (.slice ap ((qan flex null 0 2 ++ ([]:Bs)).length) ar))] aI bO fun ev bP=>?_
   refine qae (qaa ?_)
   refine wp_ret ?_
   refine qaR ?_
   refine qaB ?_
   refine qaV bP aI.cells (v:=.slice ap ((qan flex null 0 2 ++ ([]:Bs)).length) ar) kz ?_
   exact qbd aI (k:=0) rfl (by (try simp only [and1]); simp [qaL,Tree.S,Tree.N,ak,am,bB,ac,ae,ag,aF])
  refine wp_skip ?_
  refine qaa ?_
  refine qad [0,1,2,3,4,5,6,7] kz ?_
  refine qak [0,1,2,3] [4,5,6,7] [(14,.v (.slice A6 ((qay s2).length) c7)),(38,.v (.bool flex)),(39,.v (.bool null)),(41,.v (.int .i64 (((qay s2).length:Nat):Int)))] ao aE fun ew bQ=>?_
  refine qah (qai bQ (f:=64) (vs:=[.bool flex,.bool null,.int .i64 (((qay s2).length:Nat):Int),.int .i64 2]) (d:=42) kz Tryz.call64 (qdX flex null ((qay s2).length) 2 (by first | omega | exact Nat.le_trans (qbn _) (by decide) | exact Nat.le_trans (qci _) (by decide) | (simp; done) | (have:=hroom; omega)) (by first | decide | omega) _) ?_)
  rintro e_ ey ⟨aJ,aK,rfl,bR,bS⟩
  refine ⟨_,rfl,fun ez bT=>?_⟩
  obtain ⟨ah,dL⟩:=ao.frFresh bS (brow aJ aK 5 (qan flex null ((qay s2).length) 2)) (Nat.le_refl _) bR
  refine qak [5] [6,7] [(42,.v (.slice aJ ((qan flex null ((qay s2).length) 2).length) aK)),(43,.v (.slice A6 ((qay s2).length) c7))] ah bT fun eA bU=>?_
  refine qah (qaU ah bU (k:=0) (d:=44) (t:=22) (e:=5) (size:=1) (bytes:=1) (A:=aJ) (As:=A6) (m0:=((qan flex null ((qay s2).length) 2).length)) (c:=aK) (m:=((qay s2).length)) (cs:=c7) (xs:=(bc (qan flex null ((qay s2).length) 2))) (news:=bc (qay s2)) kz kz rfl ((aY.take 32767).move ah.step nilM ah.imm).src ((aY.take 32767).move ah.step nilM ah.imm).cap (by first | exact qdB (by omega) (by decide) (by omega) | exact qdB (Nat.le_trans (qbn _) (by decide)) (by decide) (Nat.le_trans (qbn _) (by decide)) | (simp; done)) fun au av eB eC dM bV bW=>?_)
  have bX:(⟨au,av,5,1,(qan flex null ((qay s2).length) 2).length + (qay s2).length,bc (qan flex null ((qay s2).length) 2) ++ bc (qay s2)⟩:Rw) = brow au av 5 (qan flex null ((qay s2).length) 2 ++ (qay s2)):=qbr (rfl) rfl
  obtain ⟨aL,dN⟩:=bV.rowEq 0 [brow au av 5 (qan flex null ((qay s2).length) 2 ++ (qay s2))] bX
  have bY:=EnvOk.pick bW (ks:=[42,43,44]) (env':=[(42,.v (.slice aJ ((qan flex null ((qay s2).length) 2).length) aK)),(43,.v (.slice A6 ((qay s2).length) c7)),(44,.v (.slice au ((qan flex null ((qay s2).length) 2).length + (qay s2).length) av))]) kz
  have bZ:=bY.cast (env':=[(42,.v (.slice aJ ((qan flex null ((qay s2).length) 2).length) aK)),(43,.v (.slice A6 ((qay s2).length) c7)),(44,.v (.slice au ((qan flex null ((qay s2).length) 2 ++ (qay s2)).length) av))]) (by simp only [List.length_append,List.length_cons,List.length_nil,Nat.zero_add])
  refine qak [7] [] [(12,.v (.slice au ((qan flex null ((qay s2).length) 2 ++ (qay s2)).length) av))] aL bZ fun eD b0=>?_
  refine qae (qaa ?_)
  refine wp_ret ?_
  refine qaR ?_
  refine qaB ?_
  refine qaV b0 aL.cells (v:=.slice au ((qan flex null ((qay s2).length) 2 ++ (qay s2)).length) av) kz ?_
  exact qbd aL (k:=0) rfl (by (try simp only [and1]); simp [qaL,Tree.S,Tree.N,ak,am,bB,ac,ae,ag,aF])
 have al:kind ≠ 8:=by simpa using ag
 refine qaz [(0,.v (.int .i64 kind)),(1,.v (.slice A l.length c)),(2,.v (.bool null)),(3,.v (.int .i64 v)),(4,.v (.bool flex)),(11,.p 0 0),(16,.v (.int .i64 kind)),(45,.v (.bool (kind == 9)))] aa bu fun eE aM=>?_
 refine qau aM (b:=kind == 9) kz (fun ab=>?_) (fun ab=>?_)
 ·
  have ba:kind = 9:=by simpa using ab
  refine qad [0,1,2,3] kz ?_
  refine qak [0,1] [2,3] [(2,.v (.bool null)),(4,.v (.bool flex)),(48,.v (.slice A6 s2.length c7))] aa aM fun eF b5=>?_
  have dE:=qbn s2
  refine qah (qai b5 (f:=24) (vs:=[.slice A6 s2.length c7]) (d:=49) kz Tryz.call24 (qfF _ _ s2 (aY.move aa.step nilM aa.imm).le _) ?_)
  rintro e_ eG ⟨rfl,bd⟩
  refine ⟨_,rfl,fun eH b6=>?_⟩
  have af:=aa.next_nil bd
  have dO:=aa.frN bd
  refine qak [3] [] [(2,.v (.bool null)),(4,.v (.bool flex)),(15,.v (.slice A6 ((qay s2).length) c7))] af b6 fun eI b8=>?_
  refine qae (qaa ?_)
  refine wp_seq ?_
  refine qaz [(2,.v (.bool null)),(4,.v (.bool flex)),(15,.v (.slice A6 ((qay s2).length) c7)),(50,.v (.bool null))] af b8 fun eJ aN=>?_
  refine qau aN (b:=null) kz (fun aO=>?_) (fun aO=>?_)
  ·
   refine qap [0] kz ?_
   refine qak [0] [] [(2,.v (.bool null)),(4,.v (.bool flex)),(15,.v (.slice none 0 0))] af aN fun eK ca=>?_
   refine qae (qaa ?_)
   refine qad [0,1,2,3,4,5,6,7] kz ?_
   refine qak [0,1,2,3] [4,5,6,7] [(15,.v (.slice none 0 0)),(51,.v (.bool flex)),(52,.v (.bool null)),(54,.v (.int .i64 0))] af ca fun eL cb=>?_
   refine qah (qai cb (f:=64) (vs:=[.bool flex,.bool null,.int .i64 0,.int .i64 4]) (d:=55) kz Tryz.call64 (qdX flex null 0 4 (by first | omega | exact Nat.le_trans (qbn _) (by decide) | exact Nat.le_trans (qci _) (by decide) | (simp; done) | (have:=hroom; omega)) (by first | decide | omega) _) ?_)
   rintro e_ eM ⟨aP,aQ,rfl,cc,cd⟩
   refine ⟨_,rfl,fun eN ce=>?_⟩
   obtain ⟨bf,dP⟩:=af.frFresh cd (brow aP aQ 5 (qan flex null 0 4)) (Nat.le_refl _) cc
   refine qak [5] [6,7] [(55,.v (.slice aP ((qan flex null 0 4).length) aQ)),(56,.v (.slice none 0 0))] bf ce fun eO cg=>?_
   refine qah (qaU bf cg (k:=0) (d:=57) (t:=22) (e:=5) (size:=1) (bytes:=1) (A:=aP) (As:=none) (m0:=((qan flex null 0 4).length)) (c:=aQ) (m:=0) (cs:=0) (xs:=(bc (qan flex null 0 4))) (news:=bc ([]:Bs)) kz kz rfl (Octs.nil _ (fun _ _=>True)).src (fun _=>rfl) (by first | exact qdB (by omega) (by decide) (by omega) | exact qdB (Nat.le_trans (qbn _) (by decide)) (by decide) (Nat.le_trans (qbn _) (by decide)) | (simp; done)) fun aw ax eP eQ dQ cl cm=>?_)
   have cq:(⟨aw,ax,5,1,(qan flex null 0 4).length + 0,bc (qan flex null 0 4) ++ bc ([]:Bs)⟩:Rw) = brow aw ax 5 (qan flex null 0 4 ++ ([]:Bs)):=qbr (rfl) rfl
   obtain ⟨aR,dR⟩:=cl.rowEq 0 [brow aw ax 5 (qan flex null 0 4 ++ ([]:Bs))] cq
   have cr:=EnvOk.pick cm (ks:=[55,56,57]) (env':=[(55,.v (.slice aP ((qan flex null 0 4).length) aQ)),(56,.v (.slice none 0 0)),(57,.v (.slice aw ((qan flex null 0 4).length + 0) ax))]) kz
   have cu:=cr.cast (env':=[(55,.v (.slice aP ((qan flex null 0 4).length) aQ)),(56,.v (.slice none 0 0)),(57,.v (.slice aw ((qan flex null 0 4 ++ ([]:Bs)).length) ax))]) (by simp only [List.length_append,List.length_cons,List.length_nil,Nat.zero_add])
   refine qak [7] [] [(12,.v (.slice aw ((qan flex null 0 4 ++ ([]:Bs)).length) ax))] aR cu fun eR cv=>?_
   refine qae (qaa ?_)
   refine wp_ret ?_
   refine qaR ?_
   refine qaB ?_
   refine qaV cv aR.cells (v:=.slice aw ((qan flex null 0 4 ++ ([]:Bs)).length) ax) kz ?_
   exact qbd aR (k:=0) rfl (by (try simp only [and1]); simp [qaL,Tree.S,Tree.N,ak,am,al,ba,ac,ae,ag,ab,aO])
  refine wp_skip ?_
  refine qaa ?_
  refine qad [0,1,2,3,4,5,6,7] kz ?_
  refine qak [0,1,2,3] [4,5,6,7] [(15,.v (.slice A6 ((qay s2).length) c7)),(51,.v (.bool flex)),(52,.v (.bool null)),(54,.v (.int .i64 (((qay s2).length:Nat):Int)))] af aN fun eS cw=>?_
  refine qah (qai cw (f:=64) (vs:=[.bool flex,.bool null,.int .i64 (((qay s2).length:Nat):Int),.int .i64 4]) (d:=55) kz Tryz.call64 (qdX flex null ((qay s2).length) 4 (by first | omega | exact Nat.le_trans (qbn _) (by decide) | exact Nat.le_trans (qci _) (by decide) | (simp; done) | (have:=hroom; omega)) (by first | decide | omega) _) ?_)
  rintro e_ eT ⟨aS,aT,rfl,cy,cz⟩
  refine ⟨_,rfl,fun eU cA=>?_⟩
  obtain ⟨ai,dS⟩:=af.frFresh cz (brow aS aT 5 (qan flex null ((qay s2).length) 4)) (Nat.le_refl _) cy
  refine qak [5] [6,7] [(55,.v (.slice aS ((qan flex null ((qay s2).length) 4).length) aT)),(56,.v (.slice A6 ((qay s2).length) c7))] ai cA fun eV cB=>?_
  refine qah (qaU ai cB (k:=0) (d:=57) (t:=22) (e:=5) (size:=1) (bytes:=1) (A:=aS) (As:=A6) (m0:=((qan flex null ((qay s2).length) 4).length)) (c:=aT) (m:=((qay s2).length)) (cs:=c7) (xs:=(bc (qan flex null ((qay s2).length) 4))) (news:=bc (qay s2)) kz kz rfl ((aY.take 32767).move ai.step nilM ai.imm).src ((aY.take 32767).move ai.step nilM ai.imm).cap (by first | exact qdB (by omega) (by decide) (by omega) | exact qdB (Nat.le_trans (qbn _) (by decide)) (by decide) (Nat.le_trans (qbn _) (by decide)) | (simp; done)) fun ay aA eW eX dT cC cD=>?_)
  have cE:(⟨ay,aA,5,1,(qan flex null ((qay s2).length) 4).length + (qay s2).length,bc (qan flex null ((qay s2).length) 4) ++ bc (qay s2)⟩:Rw) = brow ay aA 5 (qan flex null ((qay s2).length) 4 ++ (qay s2)):=qbr (rfl) rfl
  obtain ⟨aU,dU⟩:=cC.rowEq 0 [brow ay aA 5 (qan flex null ((qay s2).length) 4 ++ (qay s2))] cE
  have cG:=EnvOk.pick cD (ks:=[55,56,57]) (env':=[(55,.v (.slice aS ((qan flex null ((qay s2).length) 4).length) aT)),(56,.v (.slice A6 ((qay s2).length) c7)),(57,.v (.slice ay ((qan flex null ((qay s2).length) 4).length + (qay s2).length) aA))]) kz
  have cH:=cG.cast (env':=[(55,.v (.slice aS ((qan flex null ((qay s2).length) 4).length) aT)),(56,.v (.slice A6 ((qay s2).length) c7)),(57,.v (.slice ay ((qan flex null ((qay s2).length) 4 ++ (qay s2)).length) aA))]) (by simp only [List.length_append,List.length_cons,List.length_nil,Nat.zero_add])
  refine qak [7] [] [(12,.v (.slice ay ((qan flex null ((qay s2).length) 4 ++ (qay s2)).length) aA))] aU cH fun eY cI=>?_
  refine qae (qaa ?_)
  refine wp_ret ?_
  refine qaR ?_
  refine qaB ?_
  refine qaV cI aU.cells (v:=.slice ay ((qan flex null ((qay s2).length) 4 ++ (qay s2)).length) aA) kz ?_
  exact qbd aU (k:=0) rfl (by (try simp only [and1]); simp [qaL,Tree.S,Tree.N,ak,am,al,ba,ac,ae,ag,ab,aO])
 have aV:kind ≠ 9:=by simpa using ab
 refine qaz [(0,.v (.int .i64 kind)),(1,.v (.slice A l.length c)),(3,.v (.int .i64 v)),(4,.v (.bool flex)),(11,.p 0 0),(58,.v (.bool (kind == 10)))] aa aM fun eZ aW=>?_
 refine qau aW (b:=kind == 10) kz (fun aj=>?_) (fun aj=>?_)
 ·
  have bg:kind = 10:=by simpa using aj
  refine qad [0,1,2,3,4,5] kz ?_
  refine qak [0,1,2,3] [4,5] [(60,.v (.slice A l.length c)),(61,.v (.int .i64 v)),(62,.v (.bool flex)),(63,.v (.agg #[.int .i64 n1,.slice A6 s2.length c7,.bool b3,.slice A8 l4.length c9,.slice c5 u5.length c8]))] aa aW fun e5 cJ=>?_
  refine qah (qai cJ (f:=25) (vs:=[.slice A l.length c,.int .i64 v,.bool flex,.agg #[.int .i64 n1,.slice A6 s2.length c7,.bool b3,.slice A8 l4.length c9,.slice c5 u5.length c8]]) (d:=64) kz Tryz.call25 (hp _ _ l v flex _ (Tree.mk n1 s2 b3 l4 u5) _ _ ⟨xfs,(h1.move aa.step nilM aa.imm),(fun i_ x_ h_=>((h2 i_ x_ h_).move aa.step nilM aa.imm))⟩ hd (ht.move aa.step nilM aa.imm) (by simpa [qaL,ak,am,al,aV,bg,ac,ae,ag,ab,aj] using hroom)) ?_)
  rintro e_ e6 ⟨bv,bw,rfl,cK,cL⟩
  refine ⟨_,rfl,fun e7 cM=>?_⟩
  obtain ⟨aX,dV⟩:=aa.frFresh cL (brow bv bw 5 (qaX d l v flex (Tree.mk n1 s2 b3 l4 u5))) (Nat.le_refl _) cK
  refine qak [5] [] [(12,.v (.slice bv ((qaX d l v flex (Tree.mk n1 s2 b3 l4 u5)).length) bw))] aX cM fun e9 cN=>?_
  refine qae (qaa ?_)
  refine wp_ret ?_
  refine qaR ?_
  refine qaB ?_
  refine qaV cN aX.cells (v:=.slice bv ((qaX d l v flex (Tree.mk n1 s2 b3 l4 u5)).length) bw) kz ?_
  exact qbd aX (k:=0) rfl (by (try simp only [and1]); simp [qaL,Tree.S,Tree.N,ak,am,al,aV,bg,ac,ae,ag,ab,aj])
 have cO:kind ≠ 10:=by simpa using aj
 refine wp_skip ?_
 refine qas ?_
 refine qaa ?_
 refine qb5 5 kz aa fun fa dW bh cP=>?_
 refine qbg [0,1,2] [(66,.v (.int .i64 n1)),(67,.v (.int .i64 kind))] 3 (qab qal) (fun _ h=>h.cells) cP aW fun fb cQ=>?_
 refine qaH (i:=3) kz (qai cQ (f:=67) (vs:=[.int .i64 kind]) (d:=68) kz Tryz.call67 (qi3 kind _) ?_)
 rintro e_ fc ⟨rfl,bi⟩
 refine ⟨_,rfl,fun fe cR=>?_⟩
 have bj:=bh.next_nil bi
 have bk:=bh.frN bi
 have cS:=TT.ofW bk bj
 refine ⟨fun _=>cS,?_⟩
 refine qaH (i:=4) kz (qai cR (f:=66) (vs:=[.int .i64 n1,.int .i64 ((qbv kind:Nat):Int)]) (d:=69) kz Tryz.call66 (qfj n1 (qbv kind) (by first | decide | exact qbW _ | omega) _) ?_)
 rintro e_ ff ⟨bz,bA,rfl,cT,cV⟩
 refine ⟨_,rfl,fun fg cW=>?_⟩
 obtain ⟨aB,cX⟩:=bj.frFresh cV (brow bz bA 5 (be (qbv kind) n1)) (Nat.le_refl _) cT
 have cY:=TT.ofW (bk.trans cX) aB
 refine ⟨fun _=>cY,?_⟩
 refine qaH (i:=5) kz (qcD [12] aB.cells cW (env':=[(12,.v (.slice bz ((be (qbv kind) n1).length) bA))]) kz fun fh cZ=>?_)
 refine ⟨fun h=>absurd rfl h,?_⟩
 refine qbb kz ?_ _
 refine qaa ?_
 refine wp_ret ?_
 refine qaV cZ aB.cells (v:=.slice bz ((be (qbv kind) n1).length) bA) kz ?_
 exact qbd aB (k:=0) rfl (by (try simp only [and1]); simp [qaL,Tree.S,Tree.N,ak,am,al,aV,cO,ac,ae,ag,ab,aj])
theorem qkM {d:Nat} (hp:qi4 d) (cf:List Value) (f:Fld) (v:Int) (flex:Bool) (ct:List Value) (t:Tree) (w:World) (F:Nat → Nat → Prop) (hf:FldR w F cf f) (hd:depths f.sub ≤ d) (ht:TreeR w F ct t) (hroom:(qcU d f v flex t).length ≤ 1099511627776) :
  Calls Tryz.prog 52 #[.agg cf.toArray,.int .i64 v,.bool flex,.agg ct.toArray] w (qdr w 5 (qcU d f v flex t)):=by
 obtain ⟨n1,s2,b3,l4,u5,A6,c7,A8,c9,aL,aM,eO,rfl,rfl,eP,dP,eQ,f0⟩:=ht.open_
 have eh:=eP.small
 have ei:=dP.small
 obtain ⟨ac,af,ag,ae,ah,ai,ab,aa,ay,aA,bw,rfl,rfl,b5,dO⟩:=hf.open_
 have ej:=b5.small
 refine enter (n:=76) Tryz.func52 rfl Tryz.ntmps52 kz fun a hE=>?_
 have hW:=WOk.start w Nil
 refine qad [0,1,2] kz ?_
 refine qah (qa9 hW hE (d:=4) (cs:=[.int .i64 ac,.int .i64 af,.int .i64 ag,.int .i64 ae,.int .i64 ah,.int .i64 ai,.int .i64 ab,.slice ay aa.length aA]) kz fun ek f5 f7 eR eS eT dQ dR=>?_)
 refine qah (qa9 dQ dR (d:=7) (cs:=[.int .i64 n1,.slice A6 s2.length c7,.bool b3,.slice A8 l4.length c9,.slice aL u5.length aM]) kz fun em f8 f9 eU eV eW bz dS=>?_)
 refine qak [2] [] [(1,.v (.int .i64 v)),(2,.v (.bool flex)),(4,.p 0 0),(7,.p 1 0)] bz dS fun ga dT=>?_
 refine qae (qaa ?_)
 refine qad [0,1,2,3,4] kz ?_
 refine qak [0,1,2] [3,4] [(1,.v (.int .i64 v)),(2,.v (.bool flex)),(4,.p 0 0),(7,.p 1 0),(13,.v (.agg #[.int .i64 ac,.int .i64 af,.int .i64 ag,.int .i64 ae,.int .i64 ah,.int .i64 ai,.int .i64 ab,.slice ay aa.length aA])),(14,.v (.int .i64 v)),(15,.v (.agg #[.int .i64 n1,.slice A6 s2.length c7,.bool b3,.slice A8 l4.length c9,.slice aL u5.length aM]))] bz dT fun gb dU=>?_
 refine qah (qai dU (f:=48) (vs:=[.agg #[.int .i64 ac,.int .i64 af,.int .i64 ag,.int .i64 ae,.int .i64 ah,.int .i64 ai,.int .i64 ab,.slice ay aa.length aA],.int .i64 v,.agg #[.int .i64 n1,.slice A6 s2.length c7,.bool b3,.slice A8 l4.length c9,.slice aL u5.length aM]]) (d:=16) kz Tryz.call48 (qkn ac af ag ae ah ai ab aa _ _ v n1 s2 b3 l4 u5 _ _ _ _ _ _ _) ?_)
 rintro e_ gc ⟨rfl,b6⟩
 refine ⟨_,rfl,fun gd dV=>?_⟩
 have aj:=bz.next_nil b6
 have eX:=bz.frN b6
 refine qak [4] [] [(1,.v (.int .i64 v)),(2,.v (.bool flex)),(4,.p 0 0),(7,.p 1 0),(9,.v (.bool (Fld.nul (Fld.mk ac af ag ae ah ai ab aa) v (Tree.mk n1 s2 b3 l4 u5))))] aj dV fun ge dW=>?_
 refine qae (qaa ?_)
 refine wp_seq ?_
 refine qaz [(1,.v (.int .i64 v)),(2,.v (.bool flex)),(4,.p 0 0),(7,.p 1 0),(9,.v (.bool (Fld.nul (Fld.mk ac af ag ae ah ai ab aa) v (Tree.mk n1 s2 b3 l4 u5)))),(19,.v (.bool (ac == 11)))] aj dW fun gf bN=>?_
 refine qau bN (b:=ac == 11) kz (fun bO=>?_) (fun bO=>?_)
 ·
  have eY:ac = 11:=by simpa using bO
  refine qad [0,1,2,3] kz ?_
  refine qak [0,1] [2,3] [(1,.v (.int .i64 v)),(2,.v (.bool flex)),(4,.p 0 0),(9,.v (.bool (Fld.nul (Fld.mk ac af ag ae ah ai ab aa) v (Tree.mk n1 s2 b3 l4 u5)))),(21,.v (.slice A8 l4.length c9))] aj bN fun gg dX=>?_
  refine qah (qai dX (f:=49) (vs:=[.slice A8 l4.length c9]) (d:=22) kz Tryz.call49 (qf7 _ _ l4 (dP.move aj.step nilM aj.imm).le _) ?_)
  rintro e_ gh ⟨rfl,b8⟩
  refine ⟨_,rfl,fun gi dY=>?_⟩
  have aC:=aj.next_nil b8
  have eZ:=aj.frN b8
  refine qak [3] [] [(1,.v (.int .i64 v)),(2,.v (.bool flex)),(4,.p 0 0),(9,.v (.bool (Fld.nul (Fld.mk ac af ag ae ah ai ab aa) v (Tree.mk n1 s2 b3 l4 u5)))),(10,.v (.slice A8 ((qam l4).length) c9))] aC dY fun gj dZ=>?_
  refine qae (qaa ?_)
  refine wp_seq ?_
  refine qaz [(1,.v (.int .i64 v)),(2,.v (.bool flex)),(4,.p 0 0),(9,.v (.bool (Fld.nul (Fld.mk ac af ag ae ah ai ab aa) v (Tree.mk n1 s2 b3 l4 u5)))),(10,.v (.slice A8 ((qam l4).length) c9)),(23,.v (.bool (Fld.nul (Fld.mk ac af ag ae ah ai ab aa) v (Tree.mk n1 s2 b3 l4 u5))))] aC dZ fun gk bP=>?_
  refine qau bP (b:=Fld.nul (Fld.mk ac af ag ae ah ai ab aa) v (Tree.mk n1 s2 b3 l4 u5)) kz (fun d4=>?_) (fun d4=>?_)
  ·
   refine qap [0] kz ?_
   refine qak [0] [] [(1,.v (.int .i64 v)),(2,.v (.bool flex)),(4,.p 0 0),(9,.v (.bool (Fld.nul (Fld.mk ac af ag ae ah ai ab aa) v (Tree.mk n1 s2 b3 l4 u5)))),(10,.v (.slice none 0 0))] aC bP fun gl d5=>?_
   refine qae (qaa ?_)
   refine qad [0,1,2,3,4,5] kz ?_
   refine qak [0,1,2,3] [4,5] [(1,.v (.int .i64 v)),(2,.v (.bool flex)),(4,.p 0 0),(10,.v (.slice none 0 0)),(24,.v (.bool flex)),(25,.v (.bool (Fld.nul (Fld.mk ac af ag ae ah ai ab aa) v (Tree.mk n1 s2 b3 l4 u5)))),(27,.v (.int .i64 0))] aC d5 fun gm d6=>?_
   refine qah (qai d6 (f:=64) (vs:=[.bool flex,.bool (Fld.nul (Fld.mk ac af ag ae ah ai ab aa) v (Tree.mk n1 s2 b3 l4 u5)),.int .i64 0,.int .i64 4]) (d:=28) kz Tryz.call64 (qdX flex (Fld.nul (Fld.mk ac af ag ae ah ai ab aa) v (Tree.mk n1 s2 b3 l4 u5)) 0 4 (by first | omega | exact Nat.le_trans (qbn _) (by decide) | exact Nat.le_trans (qci _) (by decide) | (simp; done) | (have:=hroom; omega)) (by first | decide | omega) _) ?_)
   rintro e_ gn ⟨bZ,b0,rfl,d7,d8⟩
   refine ⟨_,rfl,fun gp d9=>?_⟩
   obtain ⟨bQ,e5⟩:=aC.frFresh d8 (brow bZ b0 5 (qan flex (Fld.nul (Fld.mk ac af ag ae ah ai ab aa) v (Tree.mk n1 s2 b3 l4 u5)) 0 4)) (Nat.le_refl _) d7
   refine qak [5] [] [(1,.v (.int .i64 v)),(2,.v (.bool flex)),(4,.p 0 0),(10,.v (.slice none 0 0)),(11,.v (.slice bZ ((qan flex (Fld.nul (Fld.mk ac af ag ae ah ai ab aa) v (Tree.mk n1 s2 b3 l4 u5)) 0 4).length) b0))] bQ d9 fun gq ea=>?_
   refine qae (qaa ?_)
   refine wp_seq ?_
   refine qaz [(1,.v (.int .i64 v)),(2,.v (.bool flex)),(4,.p 0 0),(10,.v (.slice none 0 0)),(11,.v (.slice bZ ((qan flex (Fld.nul (Fld.mk ac af ag ae ah ai ab aa) v (Tree.mk n1 s2 b3 l4 u5)) 0 4).length) b0)),(30,.v (.int .i64 0)),(31,.v (.int .i64 0))] bQ ea fun gt ca=>?_
   refine wp_block ?_
   have hr2:(qan flex (Fld.nul (Fld.mk ac af ag ae ah ai ab aa) v (Tree.mk n1 s2 b3 l4 u5)) 0 4 ++ ([]:List Tree).flatMap (qaL (qaX d aa v flex) ab false flex)).length ≤ 1099511627776:=by have h_:=hroom; rw [qfu ‹_› ‹_›] at h_; exact h_
   rw [List.length_append] at hr2
   have hr3:=qcq ([]:List Tree) (qaL (qaX d aa v flex) ab false flex)
   have cb:(qan flex (Fld.nul (Fld.mk ac af ag ae ah ai ab aa) v (Tree.mk n1 s2 b3 l4 u5)) 0 4) = (qan flex (Fld.nul (Fld.mk ac af ag ae ah ai ab aa) v (Tree.mk n1 s2 b3 l4 u5)) 0 4 ++ (([]:List Tree).take 0).flatMap (qaL (qaX d aa v flex) ab false flex)):=by simp
   have cc:=congrArg (brow bZ b0 5) cb
   obtain ⟨bC,eo⟩:=bQ.rowEq 0 [brow bZ b0 5 (qan flex (Fld.nul (Fld.mk ac af ag ae ah ai ab aa) v (Tree.mk n1 s2 b3 l4 u5)) 0 4 ++ (([]:List Tree).take 0).flatMap (qaL (qaX d aa v flex) ab false flex))] cc
   rw [cb] at ca
   refine wp_loop_ghost (fun n_ a_ w_=>∃ (k:Nat) (A_:Option Addr) (c_:Nat),n_ = 0 - k ∧ k ≤ 0 ∧ LInv bC 76 [⟨ek,0,[.int .i64 ac,.int .i64 af,.int .i64 ag,.int .i64 ae,.int .i64 ah,.int .i64 ai,.int .i64 ab,.slice ay aa.length aA],true⟩,⟨em,0,[.int .i64 n1,.slice A6 s2.length c7,.bool b3,.slice A8 l4.length c9,.slice aL u5.length aM],true⟩] [brow A_ c_ 5 (qan flex (Fld.nul (Fld.mk ac af ag ae ah ai ab aa) v (Tree.mk n1 s2 b3 l4 u5)) 0 4 ++ (([]:List Tree).take k).flatMap (qaL (qaX d aa v flex) ab false flex))] [(1,.v (.int .i64 v)),(2,.v (.bool flex)),(4,.p 0 0),(10,.v (.slice none 0 0)),(11,.v (.slice A_ ((qan flex (Fld.nul (Fld.mk ac af ag ae ah ai ab aa) v (Tree.mk n1 s2 b3 l4 u5)) 0 4 ++ (([]:List Tree).take k).flatMap (qaL (qaX d aa v flex) ab false flex)).length) c_)),(30,.v (.int .i64 0)),(31,.v (.int .i64 ((k:Nat):Int)))] a_ w_) (0) ⟨0,bZ,b0,by omega,by omega,ca.pk,bC,Fr.refl _ _ _⟩ ?_
   rintro e6 e7 e9 ⟨k,A_,c_,ep,eu,cd,aF,ev⟩
   refine qaz [(1,.v (.int .i64 v)),(2,.v (.bool flex)),(4,.p 0 0),(10,.v (.slice none 0 0)),(11,.v (.slice A_ ((qan flex (Fld.nul (Fld.mk ac af ag ae ah ai ab aa) v (Tree.mk n1 s2 b3 l4 u5)) 0 4 ++ (([]:List Tree).take k).flatMap (qaL (qaX d aa v flex) ab false flex)).length) c_)),(30,.v (.int .i64 0)),(31,.v (.int .i64 ((k:Nat):Int))),(32,.v (.bool (decide (((k:Nat):Int) < 0))))] aF cd fun fa bD=>?_
   refine wp_seq ?_
   refine qbx bD (b:=decide (((k:Nat):Int) < 0)) kz (decide_eq_false (by omega)) ?_
   refine wp_exit ?_
   refine qar ?_
   refine qar ?_
   refine qaE ?_
   refine qaa ?_
   refine qaz [(8,.v (.slice A_ ((qan flex (Fld.nul (Fld.mk ac af ag ae ah ai ab aa) v (Tree.mk n1 s2 b3 l4 u5)) 0 4 ++ (([]:List Tree).take k).flatMap (qaL (qaX d aa v flex) ab false flex)).length) c_))] aF bD fun fb ce=>?_
   refine wp_ret ?_
   refine qaB ?_
   refine qaV ce aF.cells (v:=.slice A_ ((qan flex (Fld.nul (Fld.mk ac af ag ae ah ai ab aa) v (Tree.mk n1 s2 b3 l4 u5)) 0 4 ++ (([]:List Tree).take k).flatMap (qaL (qaX d aa v flex) ab false flex)).length) c_) kz ?_
   exact qbd aF (k:=0) rfl (by rw [qfu ‹_› ‹_›]; simp)
  refine wp_skip ?_
  refine qaa ?_
  refine qad [0,1,2,3,4,5] kz ?_
  refine qak [0,1,2,3] [4,5] [(1,.v (.int .i64 v)),(2,.v (.bool flex)),(4,.p 0 0),(10,.v (.slice A8 ((qam l4).length) c9)),(24,.v (.bool flex)),(25,.v (.bool (Fld.nul (Fld.mk ac af ag ae ah ai ab aa) v (Tree.mk n1 s2 b3 l4 u5)))),(27,.v (.int .i64 (((qam l4).length:Nat):Int)))] aC bP fun fc cg=>?_
  refine qah (qai cg (f:=64) (vs:=[.bool flex,.bool (Fld.nul (Fld.mk ac af ag ae ah ai ab aa) v (Tree.mk n1 s2 b3 l4 u5)),.int .i64 (((qam l4).length:Nat):Int),.int .i64 4]) (d:=28) kz Tryz.call64 (qdX flex (Fld.nul (Fld.mk ac af ag ae ah ai ab aa) v (Tree.mk n1 s2 b3 l4 u5)) ((qam l4).length) 4 (by first | omega | exact Nat.le_trans (qbn _) (by decide) | exact Nat.le_trans (qci _) (by decide) | (simp; done) | (have:=hroom; omega)) (by first | decide | omega) _) ?_)
  rintro e_ fe ⟨aN,aO,rfl,cl,cm⟩
  refine ⟨_,rfl,fun ff cq=>?_⟩
  obtain ⟨aP,ew⟩:=aC.frFresh cm (brow aN aO 5 (qan flex (Fld.nul (Fld.mk ac af ag ae ah ai ab aa) v (Tree.mk n1 s2 b3 l4 u5)) ((qam l4).length) 4)) (Nat.le_refl _) cl
  refine qak [5] [] [(1,.v (.int .i64 v)),(2,.v (.bool flex)),(4,.p 0 0),(10,.v (.slice A8 ((qam l4).length) c9)),(11,.v (.slice aN ((qan flex (Fld.nul (Fld.mk ac af ag ae ah ai ab aa) v (Tree.mk n1 s2 b3 l4 u5)) ((qam l4).length) 4).length) aO))] aP cq fun fg cr=>?_
  refine qae (qaa ?_)
  refine wp_seq ?_
  refine qaz [(1,.v (.int .i64 v)),(2,.v (.bool flex)),(4,.p 0 0),(10,.v (.slice A8 ((qam l4).length) c9)),(11,.v (.slice aN ((qan flex (Fld.nul (Fld.mk ac af ag ae ah ai ab aa) v (Tree.mk n1 s2 b3 l4 u5)) ((qam l4).length) 4).length) aO)),(30,.v (.int .i64 (((qam l4).length:Nat):Int))),(31,.v (.int .i64 0))] aP cr fun fh bE=>?_
  refine wp_block ?_
  have hr2:(qan flex (Fld.nul (Fld.mk ac af ag ae ah ai ab aa) v (Tree.mk n1 s2 b3 l4 u5)) ((qam l4).length) 4 ++ (qam l4).flatMap (qaL (qaX d aa v flex) ab false flex)).length ≤ 1099511627776:=by have h_:=hroom; rw [qgf ‹_› ‹_›] at h_; exact h_
  rw [List.length_append] at hr2
  have hr3:=qcq (qam l4) (qaL (qaX d aa v flex) ab false flex)
  have hsm3:(qam l4).length ≤ 32767:=by simp only [qam,List.length_take]; omega
  have bF:(qan flex (Fld.nul (Fld.mk ac af ag ae ah ai ab aa) v (Tree.mk n1 s2 b3 l4 u5)) ((qam l4).length) 4) = (qan flex (Fld.nul (Fld.mk ac af ag ae ah ai ab aa) v (Tree.mk n1 s2 b3 l4 u5)) ((qam l4).length) 4 ++ ((qam l4).take 0).flatMap (qaL (qaX d aa v flex) ab false flex)):=by simp
  have cu:=congrArg (brow aN aO 5) bF
  obtain ⟨bG,ey⟩:=aP.rowEq 0 [brow aN aO 5 (qan flex (Fld.nul (Fld.mk ac af ag ae ah ai ab aa) v (Tree.mk n1 s2 b3 l4 u5)) ((qam l4).length) 4 ++ ((qam l4).take 0).flatMap (qaL (qaX d aa v flex) ab false flex))] cu
  rw [bF] at bE
  refine wp_loop_ghost (fun n_ a_ w_=>∃ (k:Nat) (A_:Option Addr) (c_:Nat),n_ = (qam l4).length - k ∧ k ≤ (qam l4).length ∧ LInv bG 76 [⟨ek,0,[.int .i64 ac,.int .i64 af,.int .i64 ag,.int .i64 ae,.int .i64 ah,.int .i64 ai,.int .i64 ab,.slice ay aa.length aA],true⟩,⟨em,0,[.int .i64 n1,.slice A6 s2.length c7,.bool b3,.slice A8 l4.length c9,.slice aL u5.length aM],true⟩] [brow A_ c_ 5 (qan flex (Fld.nul (Fld.mk ac af ag ae ah ai ab aa) v (Tree.mk n1 s2 b3 l4 u5)) ((qam l4).length) 4 ++ ((qam l4).take k).flatMap (qaL (qaX d aa v flex) ab false flex))] [(1,.v (.int .i64 v)),(2,.v (.bool flex)),(4,.p 0 0),(10,.v (.slice A8 ((qam l4).length) c9)),(11,.v (.slice A_ ((qan flex (Fld.nul (Fld.mk ac af ag ae ah ai ab aa) v (Tree.mk n1 s2 b3 l4 u5)) ((qam l4).length) 4 ++ ((qam l4).take k).flatMap (qaL (qaX d aa v flex) ab false flex)).length) c_)),(30,.v (.int .i64 (((qam l4).length:Nat):Int))),(31,.v (.int .i64 ((k:Nat):Int)))] a_ w_) ((qam l4).length) ⟨0,aN,aO,by omega,by omega,bE.pk,bG,Fr.refl _ _ _⟩ ?_
  rintro fi fj fk ⟨k,A_,c_,ez,eA,cv,ax,cw⟩
  refine qaz [(1,.v (.int .i64 v)),(2,.v (.bool flex)),(4,.p 0 0),(10,.v (.slice A8 ((qam l4).length) c9)),(11,.v (.slice A_ ((qan flex (Fld.nul (Fld.mk ac af ag ae ah ai ab aa) v (Tree.mk n1 s2 b3 l4 u5)) ((qam l4).length) 4 ++ ((qam l4).take k).flatMap (qaL (qaX d aa v flex) ab false flex)).length) c_)),(30,.v (.int .i64 (((qam l4).length:Nat):Int))),(31,.v (.int .i64 ((k:Nat):Int))),(32,.v (.bool (decide (((k:Nat):Int) < (((qam l4).length:Nat):Int)))))] ax cv fun fl aQ=>?_
  refine wp_seq ?_
  refine qau aQ (b:=decide (((k:Nat):Int) < (((qam l4).length:Nat):Int))) kz (fun aR=>?_) (fun aR=>?_)
  ·
   have eB:=of_decide_eq_true aR
   refine wp_skip ?_
   refine qaa ?_
   refine wp_seq ?_
   refine wp_block ?_
   refine qaz [(1,.v (.int .i64 v)),(2,.v (.bool flex)),(4,.p 0 0),(10,.v (.slice A8 ((qam l4).length) c9)),(11,.v (.slice A_ ((qan flex (Fld.nul (Fld.mk ac af ag ae ah ai ab aa) v (Tree.mk n1 s2 b3 l4 u5)) ((qam l4).length) 4 ++ ((qam l4).take k).flatMap (qaL (qaX d aa v flex) ab false flex)).length) c_)),(12,.v (.int .i64 ((k:Nat):Int))),(30,.v (.int .i64 (((qam l4).length:Nat):Int))),(31,.v (.int .i64 ((k:Nat):Int)))] ax aQ fun fm cy=>?_
   refine qcB 13 kz ax fun fo cz ar aS=>?_
   refine qbg [0,1,2,3,4,5,6,7,8] [(1,.v (.int .i64 v)),(2,.v (.bool flex)),(4,.p 0 0),(10,.v (.slice A8 ((qam l4).length) c9)),(11,.v (.slice A_ ((qan flex (Fld.nul (Fld.mk ac af ag ae ah ai ab aa) v (Tree.mk n1 s2 b3 l4 u5)) ((qam l4).length) 4 ++ ((qam l4).take k).flatMap (qaL (qaX d aa v flex) ab false flex)).length) c_)),(30,.v (.int .i64 (((qam l4).length:Nat):Int))),(31,.v (.int .i64 ((k:Nat):Int))),(34,.v (.slice A_ ((qan flex (Fld.nul (Fld.mk ac af ag ae ah ai ab aa) v (Tree.mk n1 s2 b3 l4 u5)) ((qam l4).length) 4 ++ ((qam l4).take k).flatMap (qaL (qaX d aa v flex) ab false flex)).length) c_)),(36,.v (.int .i64 ab)),(38,.v (.slice ay aa.length aA)),(39,.v (.int .i64 v)),(40,.v (.bool flex)),(41,.v (.slice A8 ((qam l4).length) c9)),(42,.v (.int .i64 ((k:Nat):Int)))] 5 (qaf (qab (qab (qaf (qab (qab qal)))))) (fun _ h=>h.cells) aS cy fun fp cA=>?_
   obtain ⟨bR,bS,cB,eC,aT⟩:=Slots.get (qc1 dP) (i:=k) (by omega)
   obtain ⟨eb,aG⟩:∃ x,(qam l4)[k]? = some x:=⟨_,List.getElem?_eq_getElem (by omega)⟩
   have aU:=(qdj eQ) k eb aG
   obtain ⟨ak,al,am,ao,ap,aV,aW,aX,aY,aZ,ba,eD,rfl,bd,ec,ee,fq,fr⟩:=aU.open_
   rw [bd] at aU
   have ef:=ec.small
   have eg:=ee.small
   rw [bd] at aT
   refine qcT cA (i:=9) (t:=23) (A:=A8) (m:=((qam l4).length)) (q:=((k:Nat):Int)) (d:=43) kz (e:=26) (size:=5) (bytes:=88) kz cB rfl (by omega) kz kz (qaf (qab (qab (qaf (qab (qab qal)))))) aS fun ft cC=>?_
   refine qdb cC (i:=10) (t:=26) (b:=bR) (o:=bS + k * 5) (d:=44) kz (cs:=[.int .i64 ak,.slice aV al.length aW,.bool am,.slice aX ao.length aY,.slice aZ ap.length ba]) (v:=.agg #[.int .i64 ak,.slice aV al.length aW,.bool am,.slice aX ao.length aY,.slice aZ ap.length ba]) kz (fun w' h'=>(AtF.move aT (TT.step0 ar h') nilM qco).at_) kz kz (qaf (qab (qab (qaf (qab (qab qal)))))) aS fun fu cD=>?_
   refine qaH (i:=11) kz (qai cD (f:=65) (vs:=[.int .i64 ab,.slice ay aa.length aA,.bool false,.int .i64 v,.bool flex,.agg #[.int .i64 ak,.slice aV al.length aW,.bool am,.slice aX ao.length aY,.slice aZ ap.length ba]]) (d:=45) kz Tryz.call65 (qi5 hp ab _ _ aa false v flex _ (Tree.mk ak al am ao ap) _ _ ⟨bw,(b5.move ar.step nilM ar.imm),(fun i_ x_ h_=>((dO i_ x_ h_).move ar.step nilM ar.imm))⟩ hd (aU.move ar.step nilM ar.imm) (by have:=qft (g:=qaL (qaX d aa v flex) ab false flex) aG; omega)) ?_)
   rintro e_ fv ⟨bf,bg,rfl,cE,cG⟩
   refine ⟨_,rfl,fun fw cH=>?_⟩
   obtain ⟨aH,bh⟩:=ar.frFresh cG (brow bf bg 5 (qaL (qaX d aa v flex) ab false flex (Tree.mk ak al am ao ap))) (Nat.le_refl _) cE
   have cI:=TT.ofW bh aH
   refine ⟨fun _=>cI,?_⟩
   refine qaH (i:=12) kz (qaU aH cH (k:=0) (d:=46) (t:=22) (e:=5) (size:=1) (bytes:=1) (A:=A_) (As:=bf) (m0:=((qan flex (Fld.nul (Fld.mk ac af ag ae ah ai ab aa) v (Tree.mk n1 s2 b3 l4 u5)) ((qam l4).length) 4 ++ ((qam l4).take k).flatMap (qaL (qaX d aa v flex) ab false flex)).length)) (c:=c_) (m:=((qaL (qaX d aa v flex) ab false flex (Tree.mk ak al am ao ap)).length)) (cs:=bg) (xs:=(bc (qan flex (Fld.nul (Fld.mk ac af ag ae ah ai ab aa) v (Tree.mk n1 s2 b3 l4 u5)) ((qam l4).length) 4 ++ ((qam l4).take k).flatMap (qaL (qaX d aa v flex) ab false flex)))) (news:=bc (qaL (qaX d aa v flex) ab false flex (Tree.mk ak al am ao ap))) kz kz rfl (qbL (aH.own 1 _ rfl) (qcZ _)) (qb0 (aH.own 1 _ rfl)) (by rw [List.length_append]; have h8_:=hr3 k; have h9_:=qft (g:=qaL (qaX d aa v flex) ab false flex) aG; omega) fun av aw fx fy bH cJ cK=>?_)
   have cL:(⟨av,aw,5,1,(qan flex (Fld.nul (Fld.mk ac af ag ae ah ai ab aa) v (Tree.mk n1 s2 b3 l4 u5)) ((qam l4).length) 4 ++ ((qam l4).take k).flatMap (qaL (qaX d aa v flex) ab false flex)).length + (qaL (qaX d aa v flex) ab false flex (Tree.mk ak al am ao ap)).length,bc (qan flex (Fld.nul (Fld.mk ac af ag ae ah ai ab aa) v (Tree.mk n1 s2 b3 l4 u5)) ((qam l4).length) 4 ++ ((qam l4).take k).flatMap (qaL (qaX d aa v flex) ab false flex)) ++ bc (qaL (qaX d aa v flex) ab false flex (Tree.mk ak al am ao ap))⟩:Rw) = brow av aw 5 (qan flex (Fld.nul (Fld.mk ac af ag ae ah ai ab aa) v (Tree.mk n1 s2 b3 l4 u5)) ((qam l4).length) 4 ++ ((qam l4).take k).flatMap (qaL (qaX d aa v flex) ab false flex) ++ (qaL (qaX d aa v flex) ab false flex (Tree.mk ak al am ao ap))):=qbr (rfl) rfl
   obtain ⟨aI,bI⟩:=cJ.rowEq 0 [brow av aw 5 (qan flex (Fld.nul (Fld.mk ac af ag ae ah ai ab aa) v (Tree.mk n1 s2 b3 l4 u5)) ((qam l4).length) 4 ++ ((qam l4).take k).flatMap (qaL (qaX d aa v flex) ab false flex) ++ (qaL (qaX d aa v flex) ab false flex (Tree.mk ak al am ao ap))),brow bf bg 5 (qaL (qaX d aa v flex) ab false flex (Tree.mk ak al am ao ap))] cL
   have cM:=EnvOk.pick cK (ks:=[1,2,4,10,11,30,31,34,36,38,39,40,41,42,43,44,45,46]) (env':=[(1,.v (.int .i64 v)),(2,.v (.bool flex)),(4,.p 0 0),(10,.v (.slice A8 ((qam l4).length) c9)),(11,.v (.slice A_ ((qan flex (Fld.nul (Fld.mk ac af ag ae ah ai ab aa) v (Tree.mk n1 s2 b3 l4 u5)) ((qam l4).length) 4 ++ ((qam l4).take k).flatMap (qaL (qaX d aa v flex) ab false flex)).length) c_)),(30,.v (.int .i64 (((qam l4).length:Nat):Int))),(31,.v (.int .i64 ((k:Nat):Int))),(34,.v (.slice A_ ((qan flex (Fld.nul (Fld.mk ac af ag ae ah ai ab aa) v (Tree.mk n1 s2 b3 l4 u5)) ((qam l4).length) 4 ++ ((qam l4).take k).flatMap (qaL (qaX d aa v flex) ab false flex)).length) c_)),(36,.v (.int .i64 ab)),(38,.v (.slice ay aa.length aA)),(39,.v (.int .i64 v)),(40,.v (.bool flex)),(41,.v (.slice A8 ((qam l4).length) c9)),(42,.v (.int .i64 ((k:Nat):Int))),(43,.v (.pointer (some ⟨bR,bS + k * 5,none⟩))),(44,.v (.agg #[.int .i64 ak,.slice aV al.length aW,.bool am,.slice aX ao.length aY,.slice aZ ap.length ba])),(45,.v (.slice bf ((qaL (qaX d aa v flex) ab false flex (Tree.mk ak al am ao ap)).length) bg)),(46,.v (.slice av ((qan flex (Fld.nul (Fld.mk ac af ag ae ah ai ab aa) v (Tree.mk n1 s2 b3 l4 u5)) ((qam l4).length) 4 ++ ((qam l4).take k).flatMap (qaL (qaX d aa v flex) ab false flex)).length + (qaL (qaX d aa v flex) ab false flex (Tree.mk ak al am ao ap)).length) aw))]) kz
   have cN:=cM.cast (env':=[(1,.v (.int .i64 v)),(2,.v (.bool flex)),(4,.p 0 0),(10,.v (.slice A8 ((qam l4).length) c9)),(11,.v (.slice A_ ((qan flex (Fld.nul (Fld.mk ac af ag ae ah ai ab aa) v (Tree.mk n1 s2 b3 l4 u5)) ((qam l4).length) 4 ++ ((qam l4).take k).flatMap (qaL (qaX d aa v flex) ab false flex)).length) c_)),(30,.v (.int .i64 (((qam l4).length:Nat):Int))),(31,.v (.int .i64 ((k:Nat):Int))),(34,.v (.slice A_ ((qan flex (Fld.nul (Fld.mk ac af ag ae ah ai ab aa) v (Tree.mk n1 s2 b3 l4 u5)) ((qam l4).length) 4 ++ ((qam l4).take k).flatMap (qaL (qaX d aa v flex) ab false flex)).length) c_)),(36,.v (.int .i64 ab)),(38,.v (.slice ay aa.length aA)),(39,.v (.int .i64 v)),(40,.v (.bool flex)),(41,.v (.slice A8 ((qam l4).length) c9)),(42,.v (.int .i64 ((k:Nat):Int))),(43,.v (.pointer (some ⟨bR,bS + k * 5,none⟩))),(44,.v (.agg #[.int .i64 ak,.slice aV al.length aW,.bool am,.slice aX ao.length aY,.slice aZ ap.length ba])),(45,.v (.slice bf ((qaL (qaX d aa v flex) ab false flex (Tree.mk ak al am ao ap)).length) bg)),(46,.v (.slice av ((qan flex (Fld.nul (Fld.mk ac af ag ae ah ai ab aa) v (Tree.mk n1 s2 b3 l4 u5)) ((qam l4).length) 4 ++ ((qam l4).take k).flatMap (qaL (qaX d aa v flex) ab false flex) ++ (qaL (qaX d aa v flex) ab false flex (Tree.mk ak al am ao ap))).length) aw))]) (by simp only [List.length_append,List.length_cons,List.length_nil,Nat.zero_add])
   have cO:=TT.ofW ((bh.trans bH).trans bI) aI
   refine ⟨fun _=>cO,?_⟩
   refine qaH (i:=13) kz (qcD [1,2,4,10,11,30,31] aI.cells cN (env':=[(1,.v (.int .i64 v)),(2,.v (.bool flex)),(4,.p 0 0),(10,.v (.slice A8 ((qam l4).length) c9)),(11,.v (.slice av ((qan flex (Fld.nul (Fld.mk ac af ag ae ah ai ab aa) v (Tree.mk n1 s2 b3 l4 u5)) ((qam l4).length) 4 ++ ((qam l4).take k).flatMap (qaL (qaX d aa v flex) ab false flex) ++ (qaL (qaX d aa v flex) ab false flex (Tree.mk ak al am ao ap))).length) aw)),(30,.v (.int .i64 (((qam l4).length:Nat):Int))),(31,.v (.int .i64 ((k:Nat):Int)))]) kz fun fz cP=>?_)
   refine ⟨fun h=>absurd rfl h,?_⟩
   refine qbb kz ?_ _
   refine qas ?_
   refine qaa ?_
   refine qap [0,1] kz ?_
   refine qak [0,1] [] [(1,.v (.int .i64 v)),(2,.v (.bool flex)),(4,.p 0 0),(10,.v (.slice A8 ((qam l4).length) c9)),(11,.v (.slice av ((qan flex (Fld.nul (Fld.mk ac af ag ae ah ai ab aa) v (Tree.mk n1 s2 b3 l4 u5)) ((qam l4).length) 4 ++ ((qam l4).take k).flatMap (qaL (qaX d aa v flex) ab false flex) ++ (qaL (qaX d aa v flex) ab false flex (Tree.mk ak al am ao ap))).length) aw)),(30,.v (.int .i64 (((qam l4).length:Nat):Int))),(31,.v (.int .i64 (IntKind.i64.wrap (((k:Nat):Int) + 1))))] aI cP fun fA bi=>?_
   refine qae (qaa ?_)
   obtain ⟨cQ,cR⟩:=aI.cutR 1 [brow av aw 5 (qan flex (Fld.nul (Fld.mk ac af ag ae ah ai ab aa) v (Tree.mk n1 s2 b3 l4 u5)) ((qam l4).length) 4 ++ ((qam l4).take k).flatMap (qaL (qaX d aa v flex) ab false flex) ++ (qaL (qaX d aa v flex) ab false flex (Tree.mk ak al am ao ap)))]
   have bJ:(qan flex (Fld.nul (Fld.mk ac af ag ae ah ai ab aa) v (Tree.mk n1 s2 b3 l4 u5)) ((qam l4).length) 4 ++ ((qam l4).take k).flatMap (qaL (qaX d aa v flex) ab false flex) ++ (qaL (qaX d aa v flex) ab false flex (Tree.mk ak al am ao ap))) = (qan flex (Fld.nul (Fld.mk ac af ag ae ah ai ab aa) v (Tree.mk n1 s2 b3 l4 u5)) ((qam l4).length) 4 ++ ((qam l4).take (k + 1)).flatMap (qaL (qaX d aa v flex) ab false flex)):=by rw [qcA aG,List.append_assoc]
   have cS:=congrArg (brow av aw 5) bJ
   obtain ⟨cT,cV⟩:=cQ.rowEq 0 [brow av aw 5 (qan flex (Fld.nul (Fld.mk ac af ag ae ah ai ab aa) v (Tree.mk n1 s2 b3 l4 u5)) ((qam l4).length) 4 ++ ((qam l4).take (k + 1)).flatMap (qaL (qaX d aa v flex) ab false flex))] cS
   rw [bJ] at bi
   have cW:IntKind.i64.wrap (((k:Nat):Int) + 1) = ((k + 1:Nat):Int):=qaN (by omega)
   rw [cW] at bi
   exact ⟨(qam l4).length - (k + 1),by omega,k + 1,av,aw,rfl,by omega,bi.pk,cT,((((((cw.trans cz).trans bh).trans bH).trans bI).trans cR).trans cV)⟩
  have eE:=of_decide_eq_false aR
  refine wp_exit ?_
  refine qar ?_
  refine qar ?_
  refine qaE ?_
  refine qaa ?_
  refine qaz [(8,.v (.slice A_ ((qan flex (Fld.nul (Fld.mk ac af ag ae ah ai ab aa) v (Tree.mk n1 s2 b3 l4 u5)) ((qam l4).length) 4 ++ ((qam l4).take k).flatMap (qaL (qaX d aa v flex) ab false flex)).length) c_))] ax aQ fun fB cX=>?_
  refine wp_ret ?_
  refine qaB ?_
  refine qaV cX ax.cells (v:=.slice A_ ((qan flex (Fld.nul (Fld.mk ac af ag ae ah ai ab aa) v (Tree.mk n1 s2 b3 l4 u5)) ((qam l4).length) 4 ++ ((qam l4).take k).flatMap (qaL (qaX d aa v flex) ab false flex)).length) c_) kz ?_
  have hkk:(qam l4).take k = qam l4:=List.take_of_length_le (by omega)
  exact qbd ax (k:=0) rfl (by rw [hkk,qgf ‹_› ‹_›]; rfl)
 have eF:ac ≠ 11:=by simpa using bO
 refine wp_skip ?_
 refine qaa ?_
 refine wp_seq ?_
 refine qad [0,1,2,3,4,5,6,7] kz ?_
 refine qak [0,1,2,3] [4,5,6,7] [(1,.v (.int .i64 v)),(2,.v (.bool flex)),(4,.p 0 0),(7,.p 1 0),(9,.v (.bool (Fld.nul (Fld.mk ac af ag ae ah ai ab aa) v (Tree.mk n1 s2 b3 l4 u5)))),(52,.v (.bool (ac == 10)))] aj bN fun fC bK=>?_
 refine (Bool.eq_false_or_eq_true (ac == 10)).elim (fun aB=>?_) (fun aB=>?_)
 ·
  have eG:ac = 10:=by simpa using aB
  have cY:=bK.cast (env':=[(1,.v (.int .i64 v)),(2,.v (.bool flex)),(4,.p 0 0),(7,.p 1 0),(9,.v (.bool (Fld.nul (Fld.mk ac af ag ae ah ai ab aa) v (Tree.mk n1 s2 b3 l4 u5)))),(52,.v (.bool true))]) (by rw [aB])
  refine qak [4,5,6,7] [] [(1,.v (.int .i64 v)),(2,.v (.bool flex)),(4,.p 0 0),(7,.p 1 0),(9,.v (.bool (Fld.nul (Fld.mk ac af ag ae ah ai ab aa) v (Tree.mk n1 s2 b3 l4 u5)))),(56,.v (.bool (decide (ae ≥ 0))))] aj cY fun fD bj=>?_
  refine qae (qaa ?_)
  refine qau bj (b:=decide (ae ≥ 0)) kz (fun bk=>?_) (fun bk=>?_)
  ·
   have eH:=of_decide_eq_true bk
   refine wp_seq ?_
   refine qaz [(1,.v (.int .i64 v)),(2,.v (.bool flex)),(4,.p 0 0),(7,.p 1 0),(57,.v (.bool (Fld.nul (Fld.mk ac af ag ae ah ai ab aa) v (Tree.mk n1 s2 b3 l4 u5))))] aj bj fun fE bn=>?_
   refine qau bn (b:=Fld.nul (Fld.mk ac af ag ae ah ai ab aa) v (Tree.mk n1 s2 b3 l4 u5)) kz (fun cZ=>?_) (fun cZ=>?_)
   ·
    refine qad [0,1] kz ?_
    refine qah (qai bn (f:=66) (vs:=[.int .i64 (-1),.int .i64 1]) (d:=58) kz Tryz.call66 (qfj (-1) 1 (by first | decide | exact qbW _ | omega) _) ?_)
    rintro e_ fF ⟨bT,bU,rfl,c5,c8⟩
    refine ⟨_,rfl,fun fG da=>?_⟩
    obtain ⟨bp,eI⟩:=aj.frFresh c8 (brow bT bU 5 (be 1 (-1))) (Nat.le_refl _) c5
    refine qak [1] [] [(8,.v (.slice bT ((be 1 (-1)).length) bU))] bp da fun fH db=>?_
    refine qae (qaa ?_)
    refine wp_ret ?_
    refine qaB ?_
    refine qaB ?_
    refine qaV db bp.cells (v:=.slice bT ((be 1 (-1)).length) bU) kz ?_
    exact qbd bp (k:=0) rfl (by first | rw [qdM ‹_› ‹_›] | rw [qdL ‹_› ‹_› ‹_›] | rw [qdd ‹_› ‹_› ‹_› ‹_›] | rw [qdK ‹_› ‹_› ‹_› ‹_›])
   refine wp_skip ?_
   refine qaa ?_
   refine qb5 8 kz aj fun fI eJ dc de=>?_
   refine qbg [1,2,3,4,5] [(61,.v (.slice ay aa.length aA)),(62,.v (.int .i64 v)),(63,.v (.bool flex)),(64,.v (.agg #[.int .i64 n1,.slice A6 s2.length c7,.bool b3,.slice A8 l4.length c9,.slice aL u5.length aM]))] 4 (qab (qab qal)) (fun _ h=>h.cells) de bn fun fJ df=>?_
   refine qaH (i:=0) kz (qai df (f:=66) (vs:=[.int .i64 1,.int .i64 1]) (d:=59) kz Tryz.call66 (qfj 1 1 (by first | decide | exact qbW _ | omega) _) ?_)
   rintro e_ fK ⟨bA,bB,rfl,dg,dh⟩
   refine ⟨_,rfl,fun fL di=>?_⟩
   obtain ⟨au,bq⟩:=dc.frFresh dh (brow bA bB 5 (be 1 1)) (Nat.le_refl _) dg
   have dj:=TT.ofW bq au
   refine ⟨fun _=>dj,?_⟩
   refine qaH (i:=6) kz (qai di (f:=25) (vs:=[.slice ay aa.length aA,.int .i64 v,.bool flex,.agg #[.int .i64 n1,.slice A6 s2.length c7,.bool b3,.slice A8 l4.length c9,.slice aL u5.length aM]]) (d:=65) kz Tryz.call25 (hp _ _ aa v flex _ (Tree.mk n1 s2 b3 l4 u5) _ _ ⟨bw,(b5.move au.step nilM au.imm),(fun i_ x_ h_=>((dO i_ x_ h_).move au.step nilM au.imm))⟩ hd (ht.move au.step nilM au.imm) (by have h9_:=hroom; rw [qdd ‹_› ‹_› ‹_› ‹_›,List.length_append] at h9_; omega)) ?_)
   rintro e_ fM ⟨br,bt,rfl,dl,dp⟩
   refine ⟨_,rfl,fun fN dq=>?_⟩
   obtain ⟨aJ,bL⟩:=au.frFresh dp (brow br bt 5 (qaX d aa v flex (Tree.mk n1 s2 b3 l4 u5))) (Nat.le_refl _) dl
   have dr:=TT.ofW (bq.trans bL) aJ
   refine ⟨fun _=>dr,?_⟩
   refine qaH (i:=7) kz (qaU aJ dq (k:=0) (d:=66) (t:=22) (e:=5) (size:=1) (bytes:=1) (A:=bA) (As:=br) (m0:=((be 1 1).length)) (c:=bB) (m:=((qaX d aa v flex (Tree.mk n1 s2 b3 l4 u5)).length)) (cs:=bt) (xs:=(bc (be 1 1))) (news:=bc (qaX d aa v flex (Tree.mk n1 s2 b3 l4 u5))) kz kz rfl (qbL (aJ.own 1 _ rfl) (qcZ _)) (qb0 (aJ.own 1 _ rfl)) (by have h9_:=hroom; rw [qdd ‹_› ‹_› ‹_› ‹_›,List.length_append] at h9_; omega) fun aD aE fO fP dt du dv=>?_)
   have dw:(⟨aD,aE,5,1,(be 1 1).length + (qaX d aa v flex (Tree.mk n1 s2 b3 l4 u5)).length,bc (be 1 1) ++ bc (qaX d aa v flex (Tree.mk n1 s2 b3 l4 u5))⟩:Rw) = brow aD aE 5 (be 1 1 ++ (qaX d aa v flex (Tree.mk n1 s2 b3 l4 u5))):=qbr (rfl) rfl
   obtain ⟨aK,dx⟩:=du.rowEq 0 [brow aD aE 5 (be 1 1 ++ (qaX d aa v flex (Tree.mk n1 s2 b3 l4 u5))),brow br bt 5 (qaX d aa v flex (Tree.mk n1 s2 b3 l4 u5))] dw
   have dy:=EnvOk.pick dv (ks:=[61,62,63,64,59,65,66]) (env':=[(61,.v (.slice ay aa.length aA)),(62,.v (.int .i64 v)),(63,.v (.bool flex)),(64,.v (.agg #[.int .i64 n1,.slice A6 s2.length c7,.bool b3,.slice A8 l4.length c9,.slice aL u5.length aM])),(59,.v (.slice bA ((be 1 1).length) bB)),(65,.v (.slice br ((qaX d aa v flex (Tree.mk n1 s2 b3 l4 u5)).length) bt)),(66,.v (.slice aD ((be 1 1).length + (qaX d aa v flex (Tree.mk n1 s2 b3 l4 u5)).length) aE))]) kz
   have dA:=dy.cast (env':=[(61,.v (.slice ay aa.length aA)),(62,.v (.int .i64 v)),(63,.v (.bool flex)),(64,.v (.agg #[.int .i64 n1,.slice A6 s2.length c7,.bool b3,.slice A8 l4.length c9,.slice aL u5.length aM])),(59,.v (.slice bA ((be 1 1).length) bB)),(65,.v (.slice br ((qaX d aa v flex (Tree.mk n1 s2 b3 l4 u5)).length) bt)),(66,.v (.slice aD ((be 1 1 ++ (qaX d aa v flex (Tree.mk n1 s2 b3 l4 u5))).length) aE))]) (by simp only [List.length_append,List.length_cons,List.length_nil,Nat.zero_add])
   have dB:=TT.ofW (((bq.trans bL).trans dt).trans dx) aK
   refine ⟨fun _=>dB,?_⟩
   refine qaH (i:=8) kz (qcD [8] aK.cells dA (env':=[(8,.v (.slice aD ((be 1 1 ++ (qaX d aa v flex (Tree.mk n1 s2 b3 l4 u5))).length) aE))]) kz fun fQ dC=>?_)
   refine ⟨fun h=>absurd rfl h,?_⟩
   refine qbb kz ?_ _
   refine qaa ?_
   refine wp_ret ?_
   refine qaB ?_
   refine qaV dC aK.cells (v:=.slice aD ((be 1 1 ++ (qaX d aa v flex (Tree.mk n1 s2 b3 l4 u5))).length) aE) kz ?_
   exact qbd aK (k:=0) rfl (by first | rw [qdM ‹_› ‹_›] | rw [qdL ‹_› ‹_› ‹_›] | rw [qdd ‹_› ‹_› ‹_› ‹_›] | rw [qdK ‹_› ‹_› ‹_› ‹_›])
  have eK:=of_decide_eq_false bk
  refine wp_skip ?_
  refine qaa ?_
  refine qad [0,1,2,3,4,5,6,7,8,9] kz ?_
  refine qak [0,1,2,3,4,5,6,7] [8,9] [(68,.v (.int .i64 ac)),(70,.v (.slice ay aa.length aA)),(71,.v (.bool (Fld.nul (Fld.mk ac af ag ae ah ai ab aa) v (Tree.mk n1 s2 b3 l4 u5)))),(72,.v (.int .i64 v)),(73,.v (.bool flex)),(74,.v (.agg #[.int .i64 n1,.slice A6 s2.length c7,.bool b3,.slice A8 l4.length c9,.slice aL u5.length aM]))] aj bj fun fR dD=>?_
  refine qah (qai dD (f:=65) (vs:=[.int .i64 ac,.slice ay aa.length aA,.bool (Fld.nul (Fld.mk ac af ag ae ah ai ab aa) v (Tree.mk n1 s2 b3 l4 u5)),.int .i64 v,.bool flex,.agg #[.int .i64 n1,.slice A6 s2.length c7,.bool b3,.slice A8 l4.length c9,.slice aL u5.length aM]]) (d:=75) kz Tryz.call65 (qi5 hp ac _ _ aa (Fld.nul (Fld.mk ac af ag ae ah ai ab aa) v (Tree.mk n1 s2 b3 l4 u5)) v flex _ (Tree.mk n1 s2 b3 l4 u5) _ _ ⟨bw,(b5.move aj.step nilM aj.imm),(fun i_ x_ h_=>((dO i_ x_ h_).move aj.step nilM aj.imm))⟩ hd (ht.move aj.step nilM aj.imm) (by have h_:=hroom; (first | rw [qdM ‹_› ‹_›] at h_ | rw [qdL ‹_› ‹_› ‹_›] at h_); exact h_)) ?_)
  rintro e_ fS ⟨bV,bW,rfl,dE,dF⟩
  refine ⟨_,rfl,fun fT dG=>?_⟩
  obtain ⟨bu,eL⟩:=aj.frFresh dF (brow bV bW 5 (qaL (qaX d aa v flex) ac (Fld.nul (Fld.mk ac af ag ae ah ai ab aa) v (Tree.mk n1 s2 b3 l4 u5)) flex (Tree.mk n1 s2 b3 l4 u5))) (Nat.le_refl _) dE
  refine qak [9] [] [(8,.v (.slice bV ((qaL (qaX d aa v flex) ac (Fld.nul (Fld.mk ac af ag ae ah ai ab aa) v (Tree.mk n1 s2 b3 l4 u5)) flex (Tree.mk n1 s2 b3 l4 u5)).length) bW))] bu dG fun fU dH=>?_
  refine qae (qaa ?_)
  refine wp_ret ?_
  refine qaV dH bu.cells (v:=.slice bV ((qaL (qaX d aa v flex) ac (Fld.nul (Fld.mk ac af ag ae ah ai ab aa) v (Tree.mk n1 s2 b3 l4 u5)) flex (Tree.mk n1 s2 b3 l4 u5)).length) bW) kz ?_
  exact qbd bu (k:=0) rfl (by first | rw [qdM ‹_› ‹_›] | rw [qdL ‹_› ‹_› ‹_›] | rw [qdd ‹_› ‹_› ‹_› ‹_›] | rw [qdK ‹_› ‹_› ‹_› ‹_›])
 have eM:ac ≠ 10:=by simpa using aB
 have dI:=bK.cast (env':=[(1,.v (.int .i64 v)),(2,.v (.bool flex)),(4,.p 0 0),(7,.p 1 0),(9,.v (.bool (Fld.nul (Fld.mk ac af ag ae ah ai ab aa) v (Tree.mk n1 s2 b3 l4 u5)))),(52,.v (.bool false))]) (by rw [aB])
 refine qak [4,5,6,7] [] [(1,.v (.int .i64 v)),(2,.v (.bool flex)),(4,.p 0 0),(7,.p 1 0),(9,.v (.bool (Fld.nul (Fld.mk ac af ag ae ah ai ab aa) v (Tree.mk n1 s2 b3 l4 u5)))),(56,.v (.bool false))] aj dI fun fV bM=>?_
 refine qae (qaa ?_)
 refine qbx bM (b:=false) kz rfl ?_
 refine wp_skip ?_
 refine qaa ?_
 refine qad [0,1,2,3,4,5,6,7,8,9] kz ?_
 refine qak [0,1,2,3,4,5,6,7] [8,9] [(68,.v (.int .i64 ac)),(70,.v (.slice ay aa.length aA)),(71,.v (.bool (Fld.nul (Fld.mk ac af ag ae ah ai ab aa) v (Tree.mk n1 s2 b3 l4 u5)))),(72,.v (.int .i64 v)),(73,.v (.bool flex)),(74,.v (.agg #[.int .i64 n1,.slice A6 s2.length c7,.bool b3,.slice A8 l4.length c9,.slice aL u5.length aM]))] aj bM fun fW dJ=>?_
 refine qah (qai dJ (f:=65) (vs:=[.int .i64 ac,.slice ay aa.length aA,.bool (Fld.nul (Fld.mk ac af ag ae ah ai ab aa) v (Tree.mk n1 s2 b3 l4 u5)),.int .i64 v,.bool flex,.agg #[.int .i64 n1,.slice A6 s2.length c7,.bool b3,.slice A8 l4.length c9,.slice aL u5.length aM]]) (d:=75) kz Tryz.call65 (qi5 hp ac _ _ aa (Fld.nul (Fld.mk ac af ag ae ah ai ab aa) v (Tree.mk n1 s2 b3 l4 u5)) v flex _ (Tree.mk n1 s2 b3 l4 u5) _ _ ⟨bw,(b5.move aj.step nilM aj.imm),(fun i_ x_ h_=>((dO i_ x_ h_).move aj.step nilM aj.imm))⟩ hd (ht.move aj.step nilM aj.imm) (by have h_:=hroom; (first | rw [qdM ‹_› ‹_›] at h_ | rw [qdL ‹_› ‹_› ‹_›] at h_); exact h_)) ?_)
 rintro e_ fX ⟨bX,bY,rfl,dK,dL⟩
 refine ⟨_,rfl,fun fY dM=>?_⟩
 obtain ⟨bv,eN⟩:=aj.frFresh dL (brow bX bY 5 (qaL (qaX d aa v flex) ac (Fld.nul (Fld.mk ac af ag ae ah ai ab aa) v (Tree.mk n1 s2 b3 l4 u5)) flex (Tree.mk n1 s2 b3 l4 u5))) (Nat.le_refl _) dK
 refine qak [9] [] [(8,.v (.slice bX ((qaL (qaX d aa v flex) ac (Fld.nul (Fld.mk ac af ag ae ah ai ab aa) v (Tree.mk n1 s2 b3 l4 u5)) flex (Tree.mk n1 s2 b3 l4 u5)).length) bY))] bv dM fun fZ dN=>?_
 refine qae (qaa ?_)
 refine wp_ret ?_
 refine qaV dN bv.cells (v:=.slice bX ((qaL (qaX d aa v flex) ac (Fld.nul (Fld.mk ac af ag ae ah ai ab aa) v (Tree.mk n1 s2 b3 l4 u5)) flex (Tree.mk n1 s2 b3 l4 u5)).length) bY) kz ?_
 exact qbd bv (k:=0) rfl (by first | rw [qdM ‹_› ‹_›] | rw [qdL ‹_› ‹_› ‹_›] | rw [qdd ‹_› ‹_› ‹_› ‹_›] | rw [qdK ‹_› ‹_› ‹_› ‹_›])
theorem qf8 (Af:Option Addr) (cf:Nat) (l:List Fld) (A:Option Addr) (c:Nat) (u:List (Int × Bs)) (w:World) (F:Nat → Nat → Prop) (hl:FldsR w F Af cf l) (hu:TagsR w F A c u) :
  Calls Tryz.prog 23 #[.slice Af l.length cf,.slice A u.length c] w (qjT w F (qag l u)):=by
 obtain ⟨xf,hf1,hf2⟩:=hl.ex
 obtain ⟨xu,hu1,hu2⟩:=hu.ex
 have hsmu:=hu1.small
 have hule:(u.take 32767).length ≤ 32767:=by rw [List.length_take]; omega
 refine enter (n:=85) Tryz.func23 rfl Tryz.ntmps23 kz fun a hE=>?_
 have hW:=WOk.start w Nil
 refine qaz [(0,.v (.slice Af l.length cf)),(1,.v (.slice A u.length c))] hW hE fun a1 hE2=>?_
 refine qad [0,1,2] kz ?_
 refine qak [0] [1,2] [(1,.v (.slice A u.length c)),(11,.v (.slice Af l.length cf))] hW hE2 fun a3 hE4=>?_
 refine qah (qai hE4 (f:=50) (vs:=[.slice Af l.length cf]) (d:=12) kz Tryz.call50 (qj2 _ _ l _ _ ⟨xf,(hf1.move hW.step nilM hW.imm),(fun i_ x_ h_=>((hf2 i_ x_ h_).move hW.step nilM hW.imm))⟩) ?_)
 rintro e_ w6 ⟨rfl,hs5⟩
 refine ⟨_,rfl,fun a7 hE8=>?_⟩
 have hW9:=hW.next_nil hs5
 have fk:=hW.frN hs5
 refine qak [2] [] [(1,.v (.slice A u.length c)),(5,.v (.int .u32 (qaq l)))] hW9 hE8 fun gO ev=>?_
 refine qae (qaa ?_)
 refine qaz [(1,.v (.slice A u.length c)),(5,.v (.int .u32 (qaq l))),(6,.v (.slice none 0 0))] hW9 ev fun gP ew=>?_
 refine wp_seq ?_
 refine qad [0,1,2,3,4,5,6] kz ?_
 refine qak [0,1,2,3] [4,5,6] [(5,.v (.int .u32 (qaq l))),(6,.v (.slice none 0 0)),(13,.v (.slice A u.length c)),(16,.v (.int .i64 (if 32767 < ((u.length:Nat):Int) then 32767 else ((u.length:Nat):Int))))] hW9 ew fun gQ ey=>?_
 refine qah (qd4 ey (t:=24) (A:=A) (m:=u.length) (cp:=c) (q:=(if 32767 < ((u.length:Nat):Int) then 32767 else ((u.length:Nat):Int))) (d:=17) (j:=(u.take 32767).length) kz (e:=64) (size:=2) (bytes:=32) kz (by simpa using qgG u.length) (by rw [List.length_take]; have:=hu1.le; omega) fun gR ez=>?_)
 refine qak [5,6] [] [(5,.v (.int .u32 (qaq l))),(6,.v (.slice none 0 0)),(17,.v (.slice A ((u.take 32767).length) c)),(18,.v (.int .i64 (((u.take 32767).length:Nat):Int))),(19,.v (.int .i64 0))] hW9 ez fun gS eA=>?_
 refine qae (qaa ?_)
 refine wp_block ?_
 have cA:=hW9.addNil 64 2
 have fl:=hW9.frNil 64 2
 refine wp_loop_ghost (fun n_ a_ w_=>∃ (k:Nat) (A_:Option Addr) (c_:Nat) (out:List (Int × Bs)) (css:List (List Value)),n_ = (u.take 32767).length - k ∧ k ≤ (u.take 32767).length ∧ (TagsE w_ (Imm F w w_ [] [⟨A_,c_,64,2,out.length,css.flatten⟩]) out css) ∧ (out = ((u.take 32767).take k).foldl (qbV (qaq l)) []) ∧ (out.length ≤ k) ∧ LInv cA 85 [] [⟨A_,c_,64,2,out.length,css.flatten⟩] [(5,.v (.int .u32 (qaq l))),(6,.v (.slice A_ out.length c_)),(17,.v (.slice A ((u.take 32767).length) c)),(18,.v (.int .i64 (((u.take 32767).length:Nat):Int))),(19,.v (.int .i64 ((k:Nat):Int)))] a_ w_) ((u.take 32767).length) ⟨0,none,0,[],[],by omega,by omega,TagsE.nil _ _,rfl,Nat.zero_le _,eA.pk,cA,Fr.refl _ _ _⟩ ?_
 rintro gT gU gV ⟨k,A_,c_,out,css,fm,fo,hT,hout,hlen,eB,aP,aS⟩
 refine qaz [(5,.v (.int .u32 (qaq l))),(6,.v (.slice A_ out.length c_)),(17,.v (.slice A ((u.take 32767).length) c)),(18,.v (.int .i64 (((u.take 32767).length:Nat):Int))),(19,.v (.int .i64 ((k:Nat):Int))),(20,.v (.bool (decide (((k:Nat):Int) < (((u.take 32767).length:Nat):Int)))))] aP eB fun gW cq=>?_
 refine wp_seq ?_
 refine qau cq (b:=decide (((k:Nat):Int) < (((u.take 32767).length:Nat):Int))) kz (fun cr=>?_) (fun cr=>?_)
 ·
  have fp:=of_decide_eq_true cr
  refine wp_skip ?_
  refine qaa ?_
  refine wp_seq ?_
  refine wp_block ?_
  refine qad [0,1,2,3] kz ?_
  obtain ⟨fq,fr,eC,ft,bG⟩:=Slots.get (qfd hu1 32767) (i:=k) (by omega)
  obtain ⟨⟨al,ax⟩,aQ⟩:∃ x,(u.take 32767)[k]? = some x:=⟨_,List.getElem?_eq_getElem (by omega)⟩
  obtain ⟨⟨aJ,aK,cB,cC⟩,eS,eT⟩:=(qfm hu2 32767) k al ax aQ
  rw [cB] at bG
  refine qah (qaM cq (t:=24) (A:=A) (m:=((u.take 32767).length)) (q:=((k:Nat):Int)) (d:=21) kz (e:=64) (size:=2) (bytes:=32) kz eC rfl (by omega) fun gX eD=>?_)
  refine qah (qa0 eD (t:=64) (b:=fq) (o:=fr + k * 2) (d:=22) kz (cs:=[.int .u32 al,.slice aJ ax.length aK]) (v:=.agg #[.int .u32 al,.slice aJ ax.length aK]) kz (AtF.move bG aP.step nilM qco).at_ fun gY eE=>?_)
  refine qah (qaw aP eE (d:=8) (cs:=[.int .u32 0,.slice none 0 0]) kz fun eF gZ hC fu fv ac eG eH=>?_)
  refine qah (qaj eG eH (oi:=0) (cs:=[.int .u32 al,.slice aJ ax.length aK]) kz fun hJ ae cu eI=>?_)
  refine qae (qaa ?_)
  refine qaz [(5,.v (.int .u32 (qaq l))),(6,.v (.slice A_ out.length c_)),(8,.p 0 0),(9,.v (.int .i64 0)),(17,.v (.slice A ((u.take 32767).length) c)),(18,.v (.int .i64 (((u.take 32767).length:Nat):Int))),(19,.v (.int .i64 ((k:Nat):Int)))] cu eI fun hK eJ=>?_
  refine wp_seq ?_
  refine wp_block ?_
  refine wp_loop_ghost (fun n_ a_ w_=>∃ (i:Nat),n_ = out.length - i ∧ (i ≤ out.length) ∧ (∀ q,q < i → (out.getD q (0,[])).1 < al) ∧ LInv cu 85 [⟨eF,0,[.int .u32 al,.slice aJ ax.length aK],true⟩] [⟨A_,c_,64,2,out.length,css.flatten⟩] [(5,.v (.int .u32 (qaq l))),(6,.v (.slice A_ out.length c_)),(8,.p 0 0),(9,.v (.int .i64 ((i:Nat):Int))),(17,.v (.slice A ((u.take 32767).length) c)),(18,.v (.int .i64 (((u.take 32767).length:Nat):Int))),(19,.v (.int .i64 ((k:Nat):Int)))] a_ w_) (out.length - 0) ⟨0,rfl,Nat.zero_le _,fun q h_=>absurd h_ (Nat.not_lt_zero q),eJ.pk,cu,Fr.refl _ _ _⟩ ?_
  rintro hP hX hY ⟨i,fw,hi,hlt,eK,eL,aa⟩
  refine wp_seq ?_
  refine qc2 kz eL fun hZ ab aC=>?_
  refine qbg [0,1,2,3,4] [(5,.v (.int .u32 (qaq l))),(6,.v (.slice A_ out.length c_)),(8,.p 0 0),(9,.v (.int .i64 ((i:Nat):Int))),(17,.v (.slice A ((u.take 32767).length) c)),(18,.v (.int .i64 (((u.take 32767).length:Nat):Int))),(19,.v (.int .i64 ((k:Nat):Int))),(27,.v (.bool (decide (((i:Nat):Int) < ((out.length:Nat):Int)))))] 9 (qab (qab (qab (qaf (qab (qaf (qab (qab (qaf (qab qal)))))))))) (fun _ h=>h ▸ aC.cells) rfl eK fun ia cD=>?_
  refine (Bool.eq_false_or_eq_true (decide (((i:Nat):Int) < ((out.length:Nat):Int)))).elim (fun aO=>?_) (fun aO=>?_)
  ·
   have fx:=of_decide_eq_true aO
   have eM:=cD.cast (env':=[(5,.v (.int .u32 (qaq l))),(6,.v (.slice A_ out.length c_)),(8,.p 0 0),(9,.v (.int .i64 ((i:Nat):Int))),(17,.v (.slice A ((u.take 32767).length) c)),(18,.v (.int .i64 (((u.take 32767).length:Nat):Int))),(19,.v (.int .i64 ((k:Nat):Int))),(27,.v (.bool true))]) (by rw [aO])
   refine qbg [5,6,10,11] [(5,.v (.int .u32 (qaq l))),(6,.v (.slice A_ out.length c_)),(8,.p 0 0),(9,.v (.int .i64 ((i:Nat):Int))),(17,.v (.slice A ((u.take 32767).length) c)),(18,.v (.int .i64 (((u.take 32767).length:Nat):Int))),(19,.v (.int .i64 ((k:Nat):Int))),(27,.v (.bool true)),(28,.v (.slice A_ out.length c_)),(29,.v (.int .i64 ((i:Nat):Int))),(34,.v (.int .u32 al))] 5 (qab (qab (qab (qaf (qab (qaf (qab (qab (qaf (qab qal)))))))))) (fun _ h=>h ▸ aC.cells) rfl eM fun ib eN=>?_
   obtain ⟨eO,cE⟩:=qcI (aC.own 0 _ rfl) (show 0 < out.length by omega)
   obtain ⟨⟨eu,ic⟩,bv⟩:∃ x,out[i]? = some x:=⟨_,List.getElem?_eq_getElem (by omega)⟩
   obtain ⟨ig,ii,eP,fy,ij,ik⟩:=TagsE.get2 (hT.move (((ac.trans ae).trans aa).trans ab).step immM (((ac.trans ae).trans aa).trans ab).to') bv
   have cG:=qhd (aC.own 0 _ rfl) cE (qdQ (hT.move (((ac.trans ae).trans aa).trans ab).step immM (((ac.trans ae).trans aa).trans ab).to').two eP)
   refine qcT eN (i:=7) (t:=24) (A:=A_) (m:=out.length) (q:=((i:Nat):Int)) (d:=30) kz (e:=64) (size:=2) (bytes:=32) kz (b:=eO) (o:=0) (j:=i) cE (rfl) (by omega) kz kz (qab (qab (qab (qaf (qab (qaf (qab (qab (qaf (qab qal)))))))))) rfl fun il eQ=>?_
   refine qbg [8] [(5,.v (.int .u32 (qaq l))),(6,.v (.slice A_ out.length c_)),(8,.p 0 0),(9,.v (.int .i64 ((i:Nat):Int))),(17,.v (.slice A ((u.take 32767).length) c)),(18,.v (.int .i64 (((u.take 32767).length:Nat):Int))),(19,.v (.int .i64 ((k:Nat):Int))),(27,.v (.bool true)),(31,.v (.pointer (some ⟨eO,0 + i * 2,none⟩))),(34,.v (.int .u32 al))] 3 (qab (qab (qab (qaf (qab (qaf (qab (qab (qaf (qab qal)))))))))) (fun _ h=>h ▸ aC.cells) rfl eQ fun im eR=>?_
   refine qdb eR (i:=9) (t:=62) (b:=eO) (o:=0 + i * 2) (d:=32) kz (cs:=[.int .u32 eu]) (v:=.int .u32 eu) kz (fun w' h'=>h' ▸ (At.drop cG 0 1)) kz kz (qab (qab (qab (qaf (qab (qaf (qab (qab (qaf (qab qal)))))))))) rfl fun fz cH=>?_
   refine qbg [12,13] [(5,.v (.int .u32 (qaq l))),(6,.v (.slice A_ out.length c_)),(8,.p 0 0),(9,.v (.int .i64 ((i:Nat):Int))),(17,.v (.slice A ((u.take 32767).length) c)),(18,.v (.int .i64 (((u.take 32767).length:Nat):Int))),(19,.v (.int .i64 ((k:Nat):Int))),(36,.v (.bool (decide (eu < al))))] 0 (qab (qab (qab (qaf (qab (qaf (qab (qab (qaf (qab qal)))))))))) (fun _ h=>h ▸ aC.cells) rfl cH fun fA aT=>?_
   refine qbb kz ?_ _
   refine qaa ?_
   refine qau aT (b:=decide (eu < al)) kz (fun aU=>?_) (fun aU=>?_)
   ·
    have eU:=of_decide_eq_true aU
    refine wp_skip ?_
    refine qaa ?_
    refine wp_block ?_
    refine qap [0,1,2] kz ?_
    refine qak [0,1,2] [] [(5,.v (.int .u32 (qaq l))),(6,.v (.slice A_ out.length c_)),(8,.p 0 0),(9,.v (.int .i64 (IntKind.i64.wrap (((i:Nat):Int) + 1)))),(17,.v (.slice A ((u.take 32767).length) c)),(18,.v (.int .i64 (((u.take 32767).length:Nat):Int))),(19,.v (.int .i64 ((k:Nat):Int)))] aC aT fun fB bH=>?_
    refine qae ?_
    refine qas ?_
    refine qaa ?_
    have cI:IntKind.i64.wrap (((i:Nat):Int) + 1) = ((i + 1:Nat):Int):=qaN (by omega)
    rw [cI] at bH
    exact ⟨out.length - (i + 1),by omega,(i + 1),rfl,by omega,fun q hq=>by rcases Nat.lt_succ_iff_lt_or_eq.1 hq with h_ | h_; exact hlt q h_; rw [h_,qiB bv]; assumption,bH.pk,aC,(aa.trans ab)⟩
   have eV:=of_decide_eq_false aU
   refine wp_exit ?_
   refine qar ?_
   refine qar ?_
   refine qaE ?_
   refine qaa ?_
   refine wp_seq ?_
   refine qc2 kz aC fun fC af ap=>?_
   refine qbg [0,1,2,3,4] [(5,.v (.int .u32 (qaq l))),(6,.v (.slice A_ out.length c_)),(8,.p 0 0),(9,.v (.int .i64 ((i:Nat):Int))),(17,.v (.slice A ((u.take 32767).length) c)),(18,.v (.int .i64 (((u.take 32767).length:Nat):Int))),(19,.v (.int .i64 ((k:Nat):Int))),(43,.v (.bool (decide (al < (qaq l)))))] 15 (qab (qab (qaf (qab (qab (qaf (qab qal))))))) (fun _ h=>h ▸ ap.cells) rfl aT fun fD bI=>?_
   refine (Bool.eq_false_or_eq_true (decide (al < (qaq l)))).elim (fun aL=>?_) (fun aL=>?_)
   ·
    have eW:=of_decide_eq_true aL
    have cJ:=bI.cast (env':=[(5,.v (.int .u32 (qaq l))),(6,.v (.slice A_ out.length c_)),(8,.p 0 0),(9,.v (.int .i64 ((i:Nat):Int))),(17,.v (.slice A ((u.take 32767).length) c)),(18,.v (.int .i64 (((u.take 32767).length:Nat):Int))),(19,.v (.int .i64 ((k:Nat):Int))),(43,.v (.bool true))]) (by rw [aL])
    refine qbg [5,6,7,8,9,10,11,12,13,14,15,16,17,18,19] [(5,.v (.int .u32 (qaq l))),(6,.v (.slice A_ out.length c_)),(8,.p 0 0),(9,.v (.int .i64 ((i:Nat):Int))),(17,.v (.slice A ((u.take 32767).length) c)),(18,.v (.int .i64 (((u.take 32767).length:Nat):Int))),(19,.v (.int .i64 ((k:Nat):Int))),(58,.v (.bool true))] 0 (qab (qab (qaf (qab (qab (qaf (qab qal))))))) (fun _ h=>h ▸ ap.cells) rfl cJ fun fE bJ=>?_
    refine qbb kz ?_ _
    refine qaa ?_
    refine qcS bJ (b:=true) kz rfl ?_
    refine wp_exit ?_
    refine qar ?_
    refine qaE ?_
    refine qaa ?_
    refine qap [0,1] kz ?_
    refine qak [0,1] [] [(5,.v (.int .u32 (qaq l))),(6,.v (.slice A_ out.length c_)),(17,.v (.slice A ((u.take 32767).length) c)),(18,.v (.int .i64 (((u.take 32767).length:Nat):Int))),(19,.v (.int .i64 (IntKind.i64.wrap (((k:Nat):Int) + 1))))] ap bJ fun fF cK=>?_
    refine qae (qaa ?_)
    obtain ⟨bK,cL,aV⟩:=ap.cutB cK 0 [] [(5,.v (.int .u32 (qaq l))),(6,.v (.slice A_ out.length c_)),(17,.v (.slice A ((u.take 32767).length) c)),(18,.v (.int .i64 (((u.take 32767).length:Nat):Int))),(19,.v (.int .i64 (IntKind.i64.wrap (((k:Nat):Int) + 1))))]
    have cM:IntKind.i64.wrap (((k:Nat):Int) + 1) = ((k + 1:Nat):Int):=qaN (by omega)
    rw [cM] at bK
    exact ⟨(u.take 32767).length - (k + 1),by omega,k + 1,A_,c_,out,css,rfl,by omega,(hT.move (((((ac.trans ae).trans aa).trans ab).trans af).trans aV).step immM (((((ac.trans ae).trans aa).trans ab).trans af).trans aV).to'),by rw [qb9 aQ,← hout]; exact (qiC ‹_›).symm,by omega,bK.pk,cL,((((((aS.trans ac).trans ae).trans aa).trans ab).trans af).trans aV)⟩
   have eX:=of_decide_eq_false aL
   have cN:=bI.cast (env':=[(5,.v (.int .u32 (qaq l))),(6,.v (.slice A_ out.length c_)),(8,.p 0 0),(9,.v (.int .i64 ((i:Nat):Int))),(17,.v (.slice A ((u.take 32767).length) c)),(18,.v (.int .i64 (((u.take 32767).length:Nat):Int))),(19,.v (.int .i64 ((k:Nat):Int))),(43,.v (.bool false))]) (by rw [aL])
   refine qbg [5,6,7,8,9] [(5,.v (.int .u32 (qaq l))),(6,.v (.slice A_ out.length c_)),(8,.p 0 0),(9,.v (.int .i64 ((i:Nat):Int))),(17,.v (.slice A ((u.take 32767).length) c)),(18,.v (.int .i64 (((u.take 32767).length:Nat):Int))),(19,.v (.int .i64 ((k:Nat):Int))),(43,.v (.bool false)),(48,.v (.bool (decide (((i:Nat):Int) < ((out.length:Nat):Int)))))] 10 (qab (qab (qaf (qab (qab (qaf (qab qal))))))) (fun _ h=>h ▸ ap.cells) rfl cN fun fG cO=>?_
   have cP:(decide (((i:Nat):Int) < ((out.length:Nat):Int))) = true:=aO
   have cQ:=cO.cast (env':=[(5,.v (.int .u32 (qaq l))),(6,.v (.slice A_ out.length c_)),(8,.p 0 0),(9,.v (.int .i64 ((i:Nat):Int))),(17,.v (.slice A ((u.take 32767).length) c)),(18,.v (.int .i64 (((u.take 32767).length:Nat):Int))),(19,.v (.int .i64 ((k:Nat):Int))),(43,.v (.bool false)),(48,.v (.bool true))]) (by rw [cP])
   refine qbg [10,11,15,16] [(5,.v (.int .u32 (qaq l))),(6,.v (.slice A_ out.length c_)),(8,.p 0 0),(9,.v (.int .i64 ((i:Nat):Int))),(17,.v (.slice A ((u.take 32767).length) c)),(18,.v (.int .i64 (((u.take 32767).length:Nat):Int))),(19,.v (.int .i64 ((k:Nat):Int))),(43,.v (.bool false)),(48,.v (.bool true)),(49,.v (.slice A_ out.length c_)),(50,.v (.int .i64 ((i:Nat):Int))),(55,.v (.int .u32 al))] 6 (qab (qab (qaf (qab (qab (qaf (qab qal))))))) (fun _ h=>h ▸ ap.cells) rfl cQ fun fH cR=>?_
   obtain ⟨cv,bL⟩:=qcI (ap.own 0 _ rfl) (show 0 < out.length by omega)
   obtain ⟨⟨aR,fI⟩,aM⟩:∃ x,out[i]? = some x:=⟨_,List.getElem?_eq_getElem (by omega)⟩
   obtain ⟨fJ,fK,cS,eY,fL,fM⟩:=TagsE.get2 (hT.move ((((ac.trans ae).trans aa).trans ab).trans af).step immM ((((ac.trans ae).trans aa).trans ab).trans af).to') aM
   have cw:=qhd (ap.own 0 _ rfl) bL (qdQ (hT.move ((((ac.trans ae).trans aa).trans ab).trans af).step immM ((((ac.trans ae).trans aa).trans ab).trans af).to').two cS)
   refine qcT cR (i:=12) (t:=24) (A:=A_) (m:=out.length) (q:=((i:Nat):Int)) (d:=51) kz (e:=64) (size:=2) (bytes:=32) kz (b:=cv) (o:=0) (j:=i) bL (rfl) (by omega) kz kz (qab (qab (qaf (qab (qab (qaf (qab qal))))))) rfl fun fN cT=>?_
   refine qbg [13] [(5,.v (.int .u32 (qaq l))),(6,.v (.slice A_ out.length c_)),(8,.p 0 0),(9,.v (.int .i64 ((i:Nat):Int))),(17,.v (.slice A ((u.take 32767).length) c)),(18,.v (.int .i64 (((u.take 32767).length:Nat):Int))),(19,.v (.int .i64 ((k:Nat):Int))),(43,.v (.bool false)),(48,.v (.bool true)),(52,.v (.pointer (some ⟨cv,0 + i * 2,none⟩))),(55,.v (.int .u32 al))] 4 (qab (qab (qaf (qab (qab (qaf (qab qal))))))) (fun _ h=>h ▸ ap.cells) rfl cT fun fO cV=>?_
   refine qdb cV (i:=14) (t:=62) (b:=cv) (o:=0 + i * 2) (d:=53) kz (cs:=[.int .u32 aR]) (v:=.int .u32 aR) kz (fun w' h'=>h' ▸ (At.drop cw 0 1)) kz kz (qab (qab (qaf (qab (qab (qaf (qab qal))))))) rfl fun fP cW=>?_
   refine qbg [17,18,19] [(5,.v (.int .u32 (qaq l))),(6,.v (.slice A_ out.length c_)),(8,.p 0 0),(9,.v (.int .i64 ((i:Nat):Int))),(17,.v (.slice A ((u.take 32767).length) c)),(18,.v (.int .i64 (((u.take 32767).length:Nat):Int))),(19,.v (.int .i64 ((k:Nat):Int))),(58,.v (.bool (aR == al)))] 0 (qab (qab (qaf (qab (qab (qaf (qab qal))))))) (fun _ h=>h ▸ ap.cells) rfl cW fun fQ aW=>?_
   refine qbb kz ?_ _
   refine qaa ?_
   refine qau aW (b:=aR == al) kz (fun aX=>?_) (fun aX=>?_)
   ·
    have eZ:aR = al:=by simpa using aX
    refine wp_exit ?_
    refine qar ?_
    refine qaE ?_
    refine qaa ?_
    refine qap [0,1] kz ?_
    refine qak [0,1] [] [(5,.v (.int .u32 (qaq l))),(6,.v (.slice A_ out.length c_)),(17,.v (.slice A ((u.take 32767).length) c)),(18,.v (.int .i64 (((u.take 32767).length:Nat):Int))),(19,.v (.int .i64 (IntKind.i64.wrap (((k:Nat):Int) + 1))))] ap aW fun fR cX=>?_
    refine qae (qaa ?_)
    obtain ⟨bM,cY,aY⟩:=ap.cutB cX 0 [] [(5,.v (.int .u32 (qaq l))),(6,.v (.slice A_ out.length c_)),(17,.v (.slice A ((u.take 32767).length) c)),(18,.v (.int .i64 (((u.take 32767).length:Nat):Int))),(19,.v (.int .i64 (IntKind.i64.wrap (((k:Nat):Int) + 1))))]
    have cZ:IntKind.i64.wrap (((k:Nat):Int) + 1) = ((k + 1:Nat):Int):=qaN (by omega)
    rw [cZ] at bM
    exact ⟨(u.take 32767).length - (k + 1),by omega,k + 1,A_,c_,out,css,rfl,by omega,(hT.move (((((ac.trans ae).trans aa).trans ab).trans af).trans aY).step immM (((((ac.trans ae).trans aa).trans ab).trans af).trans aY).to'),by rw [qb9 aQ,← hout]; exact (qjB (qfc hi hlt (fun _=>by rw [qdR aM]; omega)) (by omega) (by rw [qdR aM]; omega)).symm,by omega,bM.pk,cY,((((((aS.trans ac).trans ae).trans aa).trans ab).trans af).trans aY)⟩
   have e5:aR ≠ al:=by simpa using aX
   refine wp_skip ?_
   refine qaa ?_
   refine qad [0,1,2,3,4] kz ?_
   refine qak [0,1] [2,3,4] [(5,.v (.int .u32 (qaq l))),(8,.p 0 0),(9,.v (.int .i64 ((i:Nat):Int))),(17,.v (.slice A ((u.take 32767).length) c)),(18,.v (.int .i64 (((u.take 32767).length:Nat):Int))),(19,.v (.int .i64 ((k:Nat):Int))),(59,.v (.slice A_ out.length c_)),(60,.v (.agg #[.int .u32 0,.slice none 0 0]))] ap aW fun fS c5=>?_
   refine qbl ap c5 (k:=0) (e:=64) (size:=2) (len:=1) (cs:=[.int .u32 0,.slice none 0 0]) (d1:=61) (d:=62) kz (t:=24) (bytes:=32) kz (fun _=>by kernel_rfl) rfl kz (by omega) fun ag ai fT fU am aZ ⟨_,c8⟩=>?_
   refine qak [4] [] [(5,.v (.int .u32 (qaq l))),(6,.v (.slice ag (out.length + 1) ai)),(8,.p 0 0),(9,.v (.int .i64 ((i:Nat):Int))),(17,.v (.slice A ((u.take 32767).length) c)),(18,.v (.int .i64 (((u.take 32767).length:Nat):Int))),(19,.v (.int .i64 ((k:Nat):Int)))] aZ c8 fun fV da=>?_
   refine qae (qaa ?_)
   refine wp_seq ?_
   refine qaz [(5,.v (.int .u32 (qaq l))),(6,.v (.slice ag (out.length + 1) ai)),(8,.p 0 0),(9,.v (.int .i64 ((i:Nat):Int))),(10,.v (.int .i64 (IntKind.i64.wrap (((out.length + 1:Nat):Int) - 1)))),(17,.v (.slice A ((u.take 32767).length) c)),(18,.v (.int .i64 (((u.take 32767).length:Nat):Int))),(19,.v (.int .i64 ((k:Nat):Int)))] aZ da fun fW bN=>?_
   refine wp_block ?_
   have hcl0:=(hT.move (((((ac.trans ae).trans aa).trans ab).trans af).trans am).step immM (((((ac.trans ae).trans aa).trans ab).trans af).trans am).to').len
   have db:(⟨ag,ai,64,2,out.length + 1,css.flatten ++ [.int .u32 0,.slice none 0 0]⟩:Rw) = ⟨ag,ai,64,2,out.length + 1,(qbP css [.int .u32 0,.slice none 0 0] out.length).flatten⟩:=by rw [qhh hcl0]
   obtain ⟨bO,av⟩:=aZ.rowEq 0 [⟨ag,ai,64,2,out.length + 1,(qbP css [.int .u32 0,.slice none 0 0] out.length).flatten⟩] db
   have dc:IntKind.i64.wrap (((out.length + 1:Nat):Int) - 1) = ((out.length:Nat):Int):=by rw [wrap_i64 (by omega) (by omega)]; omega
   rw [dc] at bN
   refine wp_loop_ghost (fun n_ a_ w_=>∃ (j:Nat),n_ = j ∧ (i ≤ j) ∧ (j ≤ out.length) ∧ LInv bO 85 [⟨eF,0,[.int .u32 al,.slice aJ ax.length aK],true⟩] [⟨ag,ai,64,2,out.length + 1,(qbP css [.int .u32 0,.slice none 0 0] j).flatten⟩] [(5,.v (.int .u32 (qaq l))),(6,.v (.slice ag (out.length + 1) ai)),(8,.p 0 0),(9,.v (.int .i64 ((i:Nat):Int))),(10,.v (.int .i64 ((j:Nat):Int))),(17,.v (.slice A ((u.take 32767).length) c)),(18,.v (.int .i64 (((u.take 32767).length:Nat):Int))),(19,.v (.int .i64 ((k:Nat):Int)))] a_ w_) (out.length) ⟨out.length,rfl,hi,Nat.le_refl _,bN.pk,bO,Fr.refl _ _ _⟩ ?_
   rintro fX fY fZ ⟨j,e6,hij,hjl,de,ay,ar⟩
   refine wp_seq ?_
   refine qaz [(5,.v (.int .u32 (qaq l))),(6,.v (.slice ag (out.length + 1) ai)),(8,.p 0 0),(9,.v (.int .i64 ((i:Nat):Int))),(10,.v (.int .i64 ((j:Nat):Int))),(17,.v (.slice A ((u.take 32767).length) c)),(18,.v (.int .i64 (((u.take 32767).length:Nat):Int))),(19,.v (.int .i64 ((k:Nat):Int))),(68,.v (.bool (decide (((j:Nat):Int) > ((i:Nat):Int)))))] ay de fun f0 ba=>?_
   refine qau ba (b:=decide (((j:Nat):Int) > ((i:Nat):Int))) kz (fun bd=>?_) (fun bd=>?_)
   ·
    have e7:=of_decide_eq_true bd
    refine wp_skip ?_
    refine qaa ?_
    refine wp_seq ?_
    refine wp_block ?_
    refine qap [0,1,2,3,4,5,6,7,8] kz ?_
    refine qak [0,1,2,3,4] [5,6,7,8] [(5,.v (.int .u32 (qaq l))),(6,.v (.slice ag (out.length + 1) ai)),(8,.p 0 0),(9,.v (.int .i64 ((i:Nat):Int))),(10,.v (.int .i64 ((j:Nat):Int))),(17,.v (.slice A ((u.take 32767).length) c)),(18,.v (.int .i64 (((u.take 32767).length:Nat):Int))),(19,.v (.int .i64 ((k:Nat):Int))),(71,.v (.slice ag (out.length + 1) ai)),(72,.v (.int .i64 ((j:Nat):Int))),(73,.v (.slice ag (out.length + 1) ai)),(75,.v (.int .i64 (IntKind.i64.wrap (((j:Nat):Int) - 1))))] ay ba fun f5 df=>?_
    obtain ⟨dg,bP⟩:=qcI (ay.own 0 _ rfl) (show 0 < out.length + 1 by omega)
    obtain ⟨⟨bw,bz⟩,dh⟩:∃ x,out[j - 1]? = some x:=⟨_,List.getElem?_eq_getElem (by omega)⟩
    obtain ⟨bA,bB,bQ,e9,f7,f8⟩:=TagsE.get2 (hT.move (((((((ac.trans ae).trans aa).trans ab).trans af).trans am).trans av).trans ar).step immM (((((((ac.trans ae).trans aa).trans ab).trans af).trans am).trans av).trans ar).to') dh
    have cy:=qhd (ay.own 0 _ rfl) bP (qdQ (qex (hT.move (((((((ac.trans ae).trans aa).trans ab).trans af).trans am).trans av).trans ar).step immM (((((((ac.trans ae).trans aa).trans ab).trans af).trans am).trans av).trans ar).to').two rfl j) (qgn (show j - 1 < j by omega) bQ))
    refine qah (qaM df (t:=24) (A:=ag) (m:=(out.length + 1)) (q:=(IntKind.i64.wrap (((j:Nat):Int) - 1))) (d:=76) kz (e:=64) (size:=2) (bytes:=32) kz (b:=dg) (o:=0) (j:=(j - 1)) bP (by rw [wrap_i64 (by omega) (by omega)]; omega) (by omega) fun f9 di=>?_)
    refine qah (qa0 di (t:=64) (b:=dg) (o:=0 + (j - 1) * 2) (d:=77) kz (cs:=[.int .u32 bw,.slice bA bz.length bB]) (v:=.agg #[.int .u32 bw,.slice bA bz.length bB]) kz cy fun ga dj=>?_)
    obtain ⟨dl,bR⟩:=qcI (ay.own 0 _ rfl) (show 0 < out.length + 1 by omega)
    refine qah (qaM dj (t:=24) (A:=ag) (m:=(out.length + 1)) (q:=((j:Nat):Int)) (d:=78) kz (e:=64) (size:=2) (bytes:=32) kz (b:=dl) (o:=0) (j:=j) bR (rfl) (by omega) fun gb dp=>?_)
    refine qah (qdl ay dp (k:=0) (g:=dl) (o:=j * 2) (c:=ai) (m:=(out.length + 1)) (size:=2) (e:=64) (A:=ag) (xs:=((qbP css [.int .u32 0,.slice none 0 0] j).flatten)) (vs:=[.int .u32 bw,.slice bA bz.length bB]) kz rfl bR (by simp only [List.length_cons,List.length_nil]; omega) fun gc bf bS dq=>?_)
    refine qae ?_
    refine qas ?_
    refine qaa ?_
    refine qap [0,1,2] kz ?_
    refine qak [0,1,2] [] [(5,.v (.int .u32 (qaq l))),(6,.v (.slice ag (out.length + 1) ai)),(8,.p 0 0),(9,.v (.int .i64 ((i:Nat):Int))),(10,.v (.int .i64 (IntKind.i64.wrap (((j:Nat):Int) - 1)))),(17,.v (.slice A ((u.take 32767).length) c)),(18,.v (.int .i64 (((u.take 32767).length:Nat):Int))),(19,.v (.int .i64 ((k:Nat):Int)))] bS dq fun gd bT=>?_
    refine qae (qaa ?_)
    have dr:(⟨ag,ai,64,2,out.length + 1,qbB ((qbP css [.int .u32 0,.slice none 0 0] j).flatten) (j * 2) [.int .u32 bw,.slice bA bz.length bB]⟩:Rw) = ⟨ag,ai,64,2,out.length + 1,(qbP css [.int .u32 0,.slice none 0 0] (j - 1)).flatten⟩:=by rw [qgo (hT.move ((((((((ac.trans ae).trans aa).trans ab).trans af).trans am).trans av).trans ar).trans bf).step immM ((((((((ac.trans ae).trans aa).trans ab).trans af).trans am).trans av).trans ar).trans bf).to').two rfl (by omega) (by omega) bQ]
    obtain ⟨dt,du⟩:=bS.rowEq 0 [⟨ag,ai,64,2,out.length + 1,(qbP css [.int .u32 0,.slice none 0 0] (j - 1)).flatten⟩] dr
    have dv:IntKind.i64.wrap (((j:Nat):Int) - 1) = ((j - 1:Nat):Int):=by rw [wrap_i64 (by omega) (by omega)]; omega
    rw [dv] at bT
    exact ⟨(j - 1),by omega,(j - 1),rfl,by omega,by omega,bT.pk,dt,((ar.trans bf).trans du)⟩
   have fa:=of_decide_eq_false bd
   refine wp_exit ?_
   refine qar ?_
   refine qar ?_
   refine qaE ?_
   refine qaa ?_
   refine qap [0,1,2,3,4] kz ?_
   refine qak [0,1,2] [3,4] [(5,.v (.int .u32 (qaq l))),(6,.v (.slice ag (out.length + 1) ai)),(17,.v (.slice A ((u.take 32767).length) c)),(18,.v (.int .i64 (((u.take 32767).length:Nat):Int))),(19,.v (.int .i64 ((k:Nat):Int))),(79,.v (.slice ag (out.length + 1) ai)),(80,.v (.int .i64 ((i:Nat):Int))),(81,.v (.agg #[.int .u32 al,.slice aJ ax.length aK]))] ay ba fun ge dw=>?_
   have hji:j = i:=by omega
   have dx:(⟨ag,ai,64,2,out.length + 1,(qbP css [.int .u32 0,.slice none 0 0] j).flatten⟩:Rw) = ⟨ag,ai,64,2,out.length + 1,(qbP css [.int .u32 0,.slice none 0 0] i).flatten⟩:=by rw [hji]
   obtain ⟨bU,aD⟩:=ay.rowEq 0 [⟨ag,ai,64,2,out.length + 1,(qbP css [.int .u32 0,.slice none 0 0] i).flatten⟩] dx
   obtain ⟨dy,bV⟩:=qcI (bU.own 0 _ rfl) (show 0 < out.length + 1 by omega)
   refine qah (qaM dw (t:=24) (A:=ag) (m:=(out.length + 1)) (q:=((i:Nat):Int)) (d:=82) kz (e:=64) (size:=2) (bytes:=32) kz (b:=dy) (o:=0) (j:=i) bV (rfl) (by omega) fun gf dA=>?_)
   refine qah (qdl bU dA (k:=0) (g:=dy) (o:=i * 2) (c:=ai) (m:=(out.length + 1)) (size:=2) (e:=64) (A:=ag) (xs:=((qbP css [.int .u32 0,.slice none 0 0] i).flatten)) (vs:=[.int .u32 al,.slice aJ ax.length aK]) kz rfl bV (by simp only [List.length_cons,List.length_nil]; omega) fun gg aE bW dB=>?_)
   refine qae ?_
   refine qas ?_
   refine qaa ?_
   refine qap [0,1] kz ?_
   refine qak [0,1] [] [(5,.v (.int .u32 (qaq l))),(6,.v (.slice ag (out.length + 1) ai)),(17,.v (.slice A ((u.take 32767).length) c)),(18,.v (.int .i64 (((u.take 32767).length:Nat):Int))),(19,.v (.int .i64 (IntKind.i64.wrap (((k:Nat):Int) + 1))))] bW dB fun gh dC=>?_
   refine qae (qaa ?_)
   obtain ⟨bg,dD,aF⟩:=bW.cutB dC 0 [] [(5,.v (.int .u32 (qaq l))),(6,.v (.slice ag (out.length + 1) ai)),(17,.v (.slice A ((u.take 32767).length) c)),(18,.v (.int .i64 (((u.take 32767).length:Nat):Int))),(19,.v (.int .i64 (IntKind.i64.wrap (((k:Nat):Int) + 1))))]
   have hcl:=(hT.move ((((((((((ac.trans ae).trans aa).trans ab).trans af).trans am).trans av).trans ar).trans aD).trans aE).trans aF).step immM ((((((((((ac.trans ae).trans aa).trans ab).trans af).trans am).trans av).trans ar).trans aD).trans aE).trans aF).to').len
   have dE:(⟨ag,ai,64,2,out.length + 1,qbB ((qbP css [.int .u32 0,.slice none 0 0] i).flatten) (i * 2) [.int .u32 al,.slice aJ ax.length aK]⟩:Rw) = ⟨ag,ai,64,2,(out.take i ++ (al,ax) :: out.drop i).length,(css.take i ++ [.int .u32 al,.slice aJ ax.length aK] :: css.drop i).flatten⟩:=by rw [qgp (hT.move ((((((((((ac.trans ae).trans aa).trans ab).trans af).trans am).trans av).trans ar).trans aD).trans aE).trans aF).step immM ((((((((((ac.trans ae).trans aa).trans ab).trans af).trans am).trans av).trans ar).trans aD).trans aE).trans aF).to').two rfl (by omega) rfl,qcO (al,ax) hi]
   obtain ⟨bh,bi⟩:=dD.rowEq 0 [⟨ag,ai,64,2,(out.take i ++ (al,ax) :: out.drop i).length,(css.take i ++ [.int .u32 al,.slice aJ ax.length aK] :: css.drop i).flatten⟩] dE
   have dF:IntKind.i64.wrap (((k:Nat):Int) + 1) = ((k + 1:Nat):Int):=qaN (by omega)
   rw [dF] at bg
   have dG:out.length + 1 = (out.take i ++ (al,ax) :: out.drop i).length:=qcO (al,ax) hi
   rw [dG] at bg
   exact ⟨(u.take 32767).length - (k + 1),by omega,k + 1,ag,ai,(out.take i ++ (al,ax) :: out.drop i),(css.take i ++ [.int .u32 al,.slice aJ ax.length aK] :: css.drop i),rfl,by omega,(hT.move (((((((((((ac.trans ae).trans aa).trans ab).trans af).trans am).trans av).trans ar).trans aD).trans aE).trans aF).trans bi).step immM (((((((((((ac.trans ae).trans aa).trans ab).trans af).trans am).trans av).trans ar).trans aD).trans aE).trans aF).trans bi).to').ins ⟨⟨aJ,aK,rfl,(cC.move bh.step nilM bh.imm)⟩,eS,eT⟩ hi,by rw [qb9 aQ,← hout]; exact (qiD (qfc hi hlt (fun _=>by first | (rw [qdR bv]; omega) | (rw [qdR aM]; omega))) ‹_› (fun _=>by first | (rw [qdR bv]; omega) | (rw [qdR aM]; omega))).symm,by rw [← qcO (al,ax) hi]; omega,bg.pk,bh,((((((((((((aS.trans ac).trans ae).trans aa).trans ab).trans af).trans am).trans av).trans ar).trans aD).trans aE).trans aF).trans bi)⟩
  have fb:=of_decide_eq_false aO
  have dH:=cD.cast (env':=[(5,.v (.int .u32 (qaq l))),(6,.v (.slice A_ out.length c_)),(8,.p 0 0),(9,.v (.int .i64 ((i:Nat):Int))),(17,.v (.slice A ((u.take 32767).length) c)),(18,.v (.int .i64 (((u.take 32767).length:Nat):Int))),(19,.v (.int .i64 ((k:Nat):Int))),(27,.v (.bool false))]) (by rw [aO])
  refine qbg [5,6,7,8,9,10,11,12,13] [(5,.v (.int .u32 (qaq l))),(6,.v (.slice A_ out.length c_)),(8,.p 0 0),(9,.v (.int .i64 ((i:Nat):Int))),(17,.v (.slice A ((u.take 32767).length) c)),(18,.v (.int .i64 (((u.take 32767).length:Nat):Int))),(19,.v (.int .i64 ((k:Nat):Int))),(36,.v (.bool false))] 0 (qab (qab (qab (qaf (qab (qaf (qab (qab (qaf (qab qal)))))))))) (fun _ h=>h ▸ aC.cells) rfl dH fun gi bX=>?_
  refine qbb kz ?_ _
  refine qaa ?_
  refine qbx bX (b:=false) kz rfl ?_
  refine wp_exit ?_
  refine qar ?_
  refine qar ?_
  refine qaE ?_
  refine qaa ?_
  refine wp_seq ?_
  refine qc2 kz aC fun gj ak aA=>?_
  refine qbg [0,1,2,3,4] [(5,.v (.int .u32 (qaq l))),(6,.v (.slice A_ out.length c_)),(8,.p 0 0),(9,.v (.int .i64 ((i:Nat):Int))),(17,.v (.slice A ((u.take 32767).length) c)),(18,.v (.int .i64 (((u.take 32767).length:Nat):Int))),(19,.v (.int .i64 ((k:Nat):Int))),(43,.v (.bool (decide (al < (qaq l)))))] 15 (qab (qab (qaf (qab (qab (qaf (qab qal))))))) (fun _ h=>h ▸ aA.cells) rfl bX fun gk bY=>?_
  refine (Bool.eq_false_or_eq_true (decide (al < (qaq l)))).elim (fun aN=>?_) (fun aN=>?_)
  ·
   have fc:=of_decide_eq_true aN
   have dI:=bY.cast (env':=[(5,.v (.int .u32 (qaq l))),(6,.v (.slice A_ out.length c_)),(8,.p 0 0),(9,.v (.int .i64 ((i:Nat):Int))),(17,.v (.slice A ((u.take 32767).length) c)),(18,.v (.int .i64 (((u.take 32767).length:Nat):Int))),(19,.v (.int .i64 ((k:Nat):Int))),(43,.v (.bool true))]) (by rw [aN])
   refine qbg [5,6,7,8,9,10,11,12,13,14,15,16,17,18,19] [(5,.v (.int .u32 (qaq l))),(6,.v (.slice A_ out.length c_)),(8,.p 0 0),(9,.v (.int .i64 ((i:Nat):Int))),(17,.v (.slice A ((u.take 32767).length) c)),(18,.v (.int .i64 (((u.take 32767).length:Nat):Int))),(19,.v (.int .i64 ((k:Nat):Int))),(58,.v (.bool true))] 0 (qab (qab (qaf (qab (qab (qaf (qab qal))))))) (fun _ h=>h ▸ aA.cells) rfl dI fun gl bZ=>?_
   refine qbb kz ?_ _
   refine qaa ?_
   refine qcS bZ (b:=true) kz rfl ?_
   refine wp_exit ?_
   refine qar ?_
   refine qaE ?_
   refine qaa ?_
   refine qap [0,1] kz ?_
   refine qak [0,1] [] [(5,.v (.int .u32 (qaq l))),(6,.v (.slice A_ out.length c_)),(17,.v (.slice A ((u.take 32767).length) c)),(18,.v (.int .i64 (((u.take 32767).length:Nat):Int))),(19,.v (.int .i64 (IntKind.i64.wrap (((k:Nat):Int) + 1))))] aA bZ fun gm dJ=>?_
   refine qae (qaa ?_)
   obtain ⟨b0,dK,bj⟩:=aA.cutB dJ 0 [] [(5,.v (.int .u32 (qaq l))),(6,.v (.slice A_ out.length c_)),(17,.v (.slice A ((u.take 32767).length) c)),(18,.v (.int .i64 (((u.take 32767).length:Nat):Int))),(19,.v (.int .i64 (IntKind.i64.wrap (((k:Nat):Int) + 1))))]
   have dL:IntKind.i64.wrap (((k:Nat):Int) + 1) = ((k + 1:Nat):Int):=qaN (by omega)
   rw [dL] at b0
   exact ⟨(u.take 32767).length - (k + 1),by omega,k + 1,A_,c_,out,css,rfl,by omega,(hT.move (((((ac.trans ae).trans aa).trans ab).trans ak).trans bj).step immM (((((ac.trans ae).trans aa).trans ab).trans ak).trans bj).to'),by rw [qb9 aQ,← hout]; exact (qiC ‹_›).symm,by omega,b0.pk,dK,((((((aS.trans ac).trans ae).trans aa).trans ab).trans ak).trans bj)⟩
  have fe:=of_decide_eq_false aN
  have dM:=bY.cast (env':=[(5,.v (.int .u32 (qaq l))),(6,.v (.slice A_ out.length c_)),(8,.p 0 0),(9,.v (.int .i64 ((i:Nat):Int))),(17,.v (.slice A ((u.take 32767).length) c)),(18,.v (.int .i64 (((u.take 32767).length:Nat):Int))),(19,.v (.int .i64 ((k:Nat):Int))),(43,.v (.bool false))]) (by rw [aN])
  refine qbg [5,6,7,8,9] [(5,.v (.int .u32 (qaq l))),(6,.v (.slice A_ out.length c_)),(8,.p 0 0),(9,.v (.int .i64 ((i:Nat):Int))),(17,.v (.slice A ((u.take 32767).length) c)),(18,.v (.int .i64 (((u.take 32767).length:Nat):Int))),(19,.v (.int .i64 ((k:Nat):Int))),(43,.v (.bool false)),(48,.v (.bool (decide (((i:Nat):Int) < ((out.length:Nat):Int)))))] 10 (qab (qab (qaf (qab (qab (qaf (qab qal))))))) (fun _ h=>h ▸ aA.cells) rfl dM fun gn dN=>?_
  have dO:(decide (((i:Nat):Int) < ((out.length:Nat):Int))) = false:=aO
  have dP:=dN.cast (env':=[(5,.v (.int .u32 (qaq l))),(6,.v (.slice A_ out.length c_)),(8,.p 0 0),(9,.v (.int .i64 ((i:Nat):Int))),(17,.v (.slice A ((u.take 32767).length) c)),(18,.v (.int .i64 (((u.take 32767).length:Nat):Int))),(19,.v (.int .i64 ((k:Nat):Int))),(43,.v (.bool false)),(48,.v (.bool false))]) (by rw [dO])
  refine qbg [10,11,12,13,14,15,16,17,18,19] [(5,.v (.int .u32 (qaq l))),(6,.v (.slice A_ out.length c_)),(8,.p 0 0),(9,.v (.int .i64 ((i:Nat):Int))),(17,.v (.slice A ((u.take 32767).length) c)),(18,.v (.int .i64 (((u.take 32767).length:Nat):Int))),(19,.v (.int .i64 ((k:Nat):Int))),(58,.v (.bool false))] 0 (qab (qab (qaf (qab (qab (qaf (qab qal))))))) (fun _ h=>h ▸ aA.cells) rfl dP fun gp b5=>?_
  refine qbb kz ?_ _
  refine qaa ?_
  refine qbx b5 (b:=false) kz rfl ?_
  refine wp_skip ?_
  refine qaa ?_
  refine qad [0,1,2,3,4] kz ?_
  refine qak [0,1] [2,3,4] [(5,.v (.int .u32 (qaq l))),(8,.p 0 0),(9,.v (.int .i64 ((i:Nat):Int))),(17,.v (.slice A ((u.take 32767).length) c)),(18,.v (.int .i64 (((u.take 32767).length:Nat):Int))),(19,.v (.int .i64 ((k:Nat):Int))),(59,.v (.slice A_ out.length c_)),(60,.v (.agg #[.int .u32 0,.slice none 0 0]))] aA b5 fun gq dQ=>?_
  refine qbl aA dQ (k:=0) (e:=64) (size:=2) (len:=1) (cs:=[.int .u32 0,.slice none 0 0]) (d1:=61) (d:=62) kz (t:=24) (bytes:=32) kz (fun _=>by kernel_rfl) rfl kz (by omega) fun ah aj gt gu ao bk ⟨_,dR⟩=>?_
  refine qak [4] [] [(5,.v (.int .u32 (qaq l))),(6,.v (.slice ah (out.length + 1) aj)),(8,.p 0 0),(9,.v (.int .i64 ((i:Nat):Int))),(17,.v (.slice A ((u.take 32767).length) c)),(18,.v (.int .i64 (((u.take 32767).length:Nat):Int))),(19,.v (.int .i64 ((k:Nat):Int)))] bk dR fun gv dS=>?_
  refine qae (qaa ?_)
  refine wp_seq ?_
  refine qaz [(5,.v (.int .u32 (qaq l))),(6,.v (.slice ah (out.length + 1) aj)),(8,.p 0 0),(9,.v (.int .i64 ((i:Nat):Int))),(10,.v (.int .i64 (IntKind.i64.wrap (((out.length + 1:Nat):Int) - 1)))),(17,.v (.slice A ((u.take 32767).length) c)),(18,.v (.int .i64 (((u.take 32767).length:Nat):Int))),(19,.v (.int .i64 ((k:Nat):Int)))] bk dS fun gw b6=>?_
  refine wp_block ?_
  have hcl0:=(hT.move (((((ac.trans ae).trans aa).trans ab).trans ak).trans ao).step immM (((((ac.trans ae).trans aa).trans ab).trans ak).trans ao).to').len
  have dT:(⟨ah,aj,64,2,out.length + 1,css.flatten ++ [.int .u32 0,.slice none 0 0]⟩:Rw) = ⟨ah,aj,64,2,out.length + 1,(qbP css [.int .u32 0,.slice none 0 0] out.length).flatten⟩:=by rw [qhh hcl0]
  obtain ⟨b8,aw⟩:=bk.rowEq 0 [⟨ah,aj,64,2,out.length + 1,(qbP css [.int .u32 0,.slice none 0 0] out.length).flatten⟩] dT
  have dU:IntKind.i64.wrap (((out.length + 1:Nat):Int) - 1) = ((out.length:Nat):Int):=by rw [wrap_i64 (by omega) (by omega)]; omega
  rw [dU] at b6
  refine wp_loop_ghost (fun n_ a_ w_=>∃ (j:Nat),n_ = j ∧ (i ≤ j) ∧ (j ≤ out.length) ∧ LInv b8 85 [⟨eF,0,[.int .u32 al,.slice aJ ax.length aK],true⟩] [⟨ah,aj,64,2,out.length + 1,(qbP css [.int .u32 0,.slice none 0 0] j).flatten⟩] [(5,.v (.int .u32 (qaq l))),(6,.v (.slice ah (out.length + 1) aj)),(8,.p 0 0),(9,.v (.int .i64 ((i:Nat):Int))),(10,.v (.int .i64 ((j:Nat):Int))),(17,.v (.slice A ((u.take 32767).length) c)),(18,.v (.int .i64 (((u.take 32767).length:Nat):Int))),(19,.v (.int .i64 ((k:Nat):Int)))] a_ w_) (out.length) ⟨out.length,rfl,hi,Nat.le_refl _,b6.pk,b8,Fr.refl _ _ _⟩ ?_
  rintro gx gy gz ⟨j,ff,hij,hjl,dV,aB,au⟩
  refine wp_seq ?_
  refine qaz [(5,.v (.int .u32 (qaq l))),(6,.v (.slice ah (out.length + 1) aj)),(8,.p 0 0),(9,.v (.int .i64 ((i:Nat):Int))),(10,.v (.int .i64 ((j:Nat):Int))),(17,.v (.slice A ((u.take 32767).length) c)),(18,.v (.int .i64 (((u.take 32767).length:Nat):Int))),(19,.v (.int .i64 ((k:Nat):Int))),(68,.v (.bool (decide (((j:Nat):Int) > ((i:Nat):Int)))))] aB dV fun gA bn=>?_
  refine qau bn (b:=decide (((j:Nat):Int) > ((i:Nat):Int))) kz (fun bp=>?_) (fun bp=>?_)
  ·
   have fg:=of_decide_eq_true bp
   refine wp_skip ?_
   refine qaa ?_
   refine wp_seq ?_
   refine wp_block ?_
   refine qap [0,1,2,3,4,5,6,7,8] kz ?_
   refine qak [0,1,2,3,4] [5,6,7,8] [(5,.v (.int .u32 (qaq l))),(6,.v (.slice ah (out.length + 1) aj)),(8,.p 0 0),(9,.v (.int .i64 ((i:Nat):Int))),(10,.v (.int .i64 ((j:Nat):Int))),(17,.v (.slice A ((u.take 32767).length) c)),(18,.v (.int .i64 (((u.take 32767).length:Nat):Int))),(19,.v (.int .i64 ((k:Nat):Int))),(71,.v (.slice ah (out.length + 1) aj)),(72,.v (.int .i64 ((j:Nat):Int))),(73,.v (.slice ah (out.length + 1) aj)),(75,.v (.int .i64 (IntKind.i64.wrap (((j:Nat):Int) - 1))))] aB bn fun gB dW=>?_
   obtain ⟨dX,ca⟩:=qcI (aB.own 0 _ rfl) (show 0 < out.length + 1 by omega)
   obtain ⟨⟨bC,bD⟩,dY⟩:∃ x,out[j - 1]? = some x:=⟨_,List.getElem?_eq_getElem (by omega)⟩
   obtain ⟨bE,bF,cb,fh,gC,gD⟩:=TagsE.get2 (hT.move (((((((ac.trans ae).trans aa).trans ab).trans ak).trans ao).trans aw).trans au).step immM (((((((ac.trans ae).trans aa).trans ab).trans ak).trans ao).trans aw).trans au).to') dY
   have cz:=qhd (aB.own 0 _ rfl) ca (qdQ (qex (hT.move (((((((ac.trans ae).trans aa).trans ab).trans ak).trans ao).trans aw).trans au).step immM (((((((ac.trans ae).trans aa).trans ab).trans ak).trans ao).trans aw).trans au).to').two rfl j) (qgn (show j - 1 < j by omega) cb))
   refine qah (qaM dW (t:=24) (A:=ah) (m:=(out.length + 1)) (q:=(IntKind.i64.wrap (((j:Nat):Int) - 1))) (d:=76) kz (e:=64) (size:=2) (bytes:=32) kz (b:=dX) (o:=0) (j:=(j - 1)) ca (by rw [wrap_i64 (by omega) (by omega)]; omega) (by omega) fun gE dZ=>?_)
   refine qah (qa0 dZ (t:=64) (b:=dX) (o:=0 + (j - 1) * 2) (d:=77) kz (cs:=[.int .u32 bC,.slice bE bD.length bF]) (v:=.agg #[.int .u32 bC,.slice bE bD.length bF]) kz cz fun gF d4=>?_)
   obtain ⟨d5,cc⟩:=qcI (aB.own 0 _ rfl) (show 0 < out.length + 1 by omega)
   refine qah (qaM d4 (t:=24) (A:=ah) (m:=(out.length + 1)) (q:=((j:Nat):Int)) (d:=78) kz (e:=64) (size:=2) (bytes:=32) kz (b:=d5) (o:=0) (j:=j) cc (rfl) (by omega) fun gG d6=>?_)
   refine qah (qdl aB d6 (k:=0) (g:=d5) (o:=j * 2) (c:=aj) (m:=(out.length + 1)) (size:=2) (e:=64) (A:=ah) (xs:=((qbP css [.int .u32 0,.slice none 0 0] j).flatten)) (vs:=[.int .u32 bC,.slice bE bD.length bF]) kz rfl cc (by simp only [List.length_cons,List.length_nil]; omega) fun gH bq cd d7=>?_)
   refine qae ?_
   refine qas ?_
   refine qaa ?_
   refine qap [0,1,2] kz ?_
   refine qak [0,1,2] [] [(5,.v (.int .u32 (qaq l))),(6,.v (.slice ah (out.length + 1) aj)),(8,.p 0 0),(9,.v (.int .i64 ((i:Nat):Int))),(10,.v (.int .i64 (IntKind.i64.wrap (((j:Nat):Int) - 1)))),(17,.v (.slice A ((u.take 32767).length) c)),(18,.v (.int .i64 (((u.take 32767).length:Nat):Int))),(19,.v (.int .i64 ((k:Nat):Int)))] cd d7 fun gI ce=>?_
   refine qae (qaa ?_)
   have d8:(⟨ah,aj,64,2,out.length + 1,qbB ((qbP css [.int .u32 0,.slice none 0 0] j).flatten) (j * 2) [.int .u32 bC,.slice bE bD.length bF]⟩:Rw) = ⟨ah,aj,64,2,out.length + 1,(qbP css [.int .u32 0,.slice none 0 0] (j - 1)).flatten⟩:=by rw [qgo (hT.move ((((((((ac.trans ae).trans aa).trans ab).trans ak).trans ao).trans aw).trans au).trans bq).step immM ((((((((ac.trans ae).trans aa).trans ab).trans ak).trans ao).trans aw).trans au).trans bq).to').two rfl (by omega) (by omega) cb]
   obtain ⟨d9,ea⟩:=cd.rowEq 0 [⟨ah,aj,64,2,out.length + 1,(qbP css [.int .u32 0,.slice none 0 0] (j - 1)).flatten⟩] d8
   have eb:IntKind.i64.wrap (((j:Nat):Int) - 1) = ((j - 1:Nat):Int):=by rw [wrap_i64 (by omega) (by omega)]; omega
   rw [eb] at ce
   exact ⟨(j - 1),by omega,(j - 1),rfl,by omega,by omega,ce.pk,d9,((au.trans bq).trans ea)⟩
  have fi:=of_decide_eq_false bp
  refine wp_exit ?_
  refine qar ?_
  refine qar ?_
  refine qaE ?_
  refine qaa ?_
  refine qap [0,1,2,3,4] kz ?_
  refine qak [0,1,2] [3,4] [(5,.v (.int .u32 (qaq l))),(6,.v (.slice ah (out.length + 1) aj)),(17,.v (.slice A ((u.take 32767).length) c)),(18,.v (.int .i64 (((u.take 32767).length:Nat):Int))),(19,.v (.int .i64 ((k:Nat):Int))),(79,.v (.slice ah (out.length + 1) aj)),(80,.v (.int .i64 ((i:Nat):Int))),(81,.v (.agg #[.int .u32 al,.slice aJ ax.length aK]))] aB bn fun gJ ec=>?_
  have hji:j = i:=by omega
  have ee:(⟨ah,aj,64,2,out.length + 1,(qbP css [.int .u32 0,.slice none 0 0] j).flatten⟩:Rw) = ⟨ah,aj,64,2,out.length + 1,(qbP css [.int .u32 0,.slice none 0 0] i).flatten⟩:=by rw [hji]
  obtain ⟨cg,aG⟩:=aB.rowEq 0 [⟨ah,aj,64,2,out.length + 1,(qbP css [.int .u32 0,.slice none 0 0] i).flatten⟩] ee
  obtain ⟨ef,cl⟩:=qcI (cg.own 0 _ rfl) (show 0 < out.length + 1 by omega)
  refine qah (qaM ec (t:=24) (A:=ah) (m:=(out.length + 1)) (q:=((i:Nat):Int)) (d:=82) kz (e:=64) (size:=2) (bytes:=32) kz (b:=ef) (o:=0) (j:=i) cl (rfl) (by omega) fun gK eg=>?_)
  refine qah (qdl cg eg (k:=0) (g:=ef) (o:=i * 2) (c:=aj) (m:=(out.length + 1)) (size:=2) (e:=64) (A:=ah) (xs:=((qbP css [.int .u32 0,.slice none 0 0] i).flatten)) (vs:=[.int .u32 al,.slice aJ ax.length aK]) kz rfl cl (by simp only [List.length_cons,List.length_nil]; omega) fun gL aH cm eh=>?_)
  refine qae ?_
  refine qas ?_
  refine qaa ?_
  refine qap [0,1] kz ?_
  refine qak [0,1] [] [(5,.v (.int .u32 (qaq l))),(6,.v (.slice ah (out.length + 1) aj)),(17,.v (.slice A ((u.take 32767).length) c)),(18,.v (.int .i64 (((u.take 32767).length:Nat):Int))),(19,.v (.int .i64 (IntKind.i64.wrap (((k:Nat):Int) + 1))))] cm eh fun gM ei=>?_
  refine qae (qaa ?_)
  obtain ⟨br,ej,aI⟩:=cm.cutB ei 0 [] [(5,.v (.int .u32 (qaq l))),(6,.v (.slice ah (out.length + 1) aj)),(17,.v (.slice A ((u.take 32767).length) c)),(18,.v (.int .i64 (((u.take 32767).length:Nat):Int))),(19,.v (.int .i64 (IntKind.i64.wrap (((k:Nat):Int) + 1))))]
  have hcl:=(hT.move ((((((((((ac.trans ae).trans aa).trans ab).trans ak).trans ao).trans aw).trans au).trans aG).trans aH).trans aI).step immM ((((((((((ac.trans ae).trans aa).trans ab).trans ak).trans ao).trans aw).trans au).trans aG).trans aH).trans aI).to').len
  have ek:(⟨ah,aj,64,2,out.length + 1,qbB ((qbP css [.int .u32 0,.slice none 0 0] i).flatten) (i * 2) [.int .u32 al,.slice aJ ax.length aK]⟩:Rw) = ⟨ah,aj,64,2,(out.take i ++ (al,ax) :: out.drop i).length,(css.take i ++ [.int .u32 al,.slice aJ ax.length aK] :: css.drop i).flatten⟩:=by rw [qgp (hT.move ((((((((((ac.trans ae).trans aa).trans ab).trans ak).trans ao).trans aw).trans au).trans aG).trans aH).trans aI).step immM ((((((((((ac.trans ae).trans aa).trans ab).trans ak).trans ao).trans aw).trans au).trans aG).trans aH).trans aI).to').two rfl (by omega) rfl,qcO (al,ax) hi]
  obtain ⟨bt,bu⟩:=ej.rowEq 0 [⟨ah,aj,64,2,(out.take i ++ (al,ax) :: out.drop i).length,(css.take i ++ [.int .u32 al,.slice aJ ax.length aK] :: css.drop i).flatten⟩] ek
  have em:IntKind.i64.wrap (((k:Nat):Int) + 1) = ((k + 1:Nat):Int):=qaN (by omega)
  rw [em] at br
  have eo:out.length + 1 = (out.take i ++ (al,ax) :: out.drop i).length:=qcO (al,ax) hi
  rw [eo] at br
  exact ⟨(u.take 32767).length - (k + 1),by omega,k + 1,ah,aj,(out.take i ++ (al,ax) :: out.drop i),(css.take i ++ [.int .u32 al,.slice aJ ax.length aK] :: css.drop i),rfl,by omega,(hT.move (((((((((((ac.trans ae).trans aa).trans ab).trans ak).trans ao).trans aw).trans au).trans aG).trans aH).trans aI).trans bu).step immM (((((((((((ac.trans ae).trans aa).trans ab).trans ak).trans ao).trans aw).trans au).trans aG).trans aH).trans aI).trans bu).to').ins ⟨⟨aJ,aK,rfl,(cC.move bt.step nilM bt.imm)⟩,eS,eT⟩ hi,by rw [qb9 aQ,← hout]; exact (qiD (qfc hi hlt (fun h_=>absurd h_ (by omega))) ‹_› (fun h_=>absurd h_ (by omega))).symm,by rw [← qcO (al,ax) hi]; omega,br.pk,bt,((((((((((((aS.trans ac).trans ae).trans aa).trans ab).trans ak).trans ao).trans aw).trans au).trans aG).trans aH).trans aI).trans bu)⟩
 have fj:=of_decide_eq_false cr
 refine wp_exit ?_
 refine qar ?_
 refine qar ?_
 refine qaE ?_
 refine qaa ?_
 refine qaz [(4,.v (.slice A_ out.length c_))] aP cq fun gN ep=>?_
 refine wp_ret ?_
 refine qaV ep aP.cells (v:=.slice A_ out.length c_) kz ?_
 exact qgU aP (k:=0) rfl rfl rfl hT (by omega) (by rw [hout,List.take_of_length_le (by omega)]; rfl)
end Go.Proofs.YtajibgahdkllkaaGreat.ME