/- FnMakeDescribeTopicPartitionsResponse: the statement: of every version and every tree of the bulk that the statement speaks of the law returns true, and leaves its arguments as they are. Own work. -/
import Derived.Test.YtajibgahdkllkaaGreatWm0P3
namespace Go.Proofs.YtajibgahdkllkaaGreat.ME
open Go
open Go.RowKit
set_option linter.unusedVariables false
set_option linter.unusedSimpArgs false
set_option maxRecDepth 20000
def qaI (T:Tree):Prop:=(True) ∧ (True) ∧ (True) ∧ (True) ∧ ((lst (T.at_ 4)).length ≤ 1000000) ∧ ((lst (T.at_ 5)).length ≤ 1000000) ∧ ((lst (T.at_ 6)).length ≤ 1000000) ∧ ((lst (T.at_ 7)).length ≤ 1000000) ∧ ((lst (T.at_ 8)).length ≤ 1000000) ∧ canU T.U ∧ True
def qaW (T:Tree):Prop:=(True) ∧ ((qdf (T.at_ 1)).length ≤ 1000000) ∧ (True) ∧ (True) ∧ ((lst (T.at_ 4)).length ≤ 1000000 ∧ ∀ x ∈ lst (T.at_ 4),qaI x) ∧ (True) ∧ canU T.U ∧ True
def qaQ (T:Tree):Prop:=((T.at_ 0).S.length ≤ 1000000) ∧ (True) ∧ canU T.U ∧ True
def qa2 (T:Tree):Prop:=(True) ∧ ((lst (T.at_ 1)).length ≤ 1000000 ∧ ∀ x ∈ lst (T.at_ 1),qaW x) ∧ (qaQ (T.at_ 2)) ∧ canU T.U ∧ True
theorem qcg (v:Int) (t:Tree):qa2 (fitT v 8 sDescribeTopicPartitionsResponseF t):=by
 unfold qa2
 exact ⟨(trivial),(⟨qfi (d:=7) (show sDescribeTopicPartitionsResponseF[1]? = _ from rfl),qi2 (d:=7) (Q:=qaW) (show sDescribeTopicPartitionsResponseF[1]? = _ from rfl) fun y=>by
   have h:=qhv (v:=v) (d:=7) (x1:=0) (x2:=-1) (x5:=0) (x6:=10) (s:=[(Fld.mk 2 0 (-1) (-1) (-1) 0 0 []),(Fld.mk 8 0 (-1) 0 (-1) 0 0 []),(Fld.mk 7 0 (-1) (-1) (-1) 0 0 []),(Fld.mk 0 0 (-1) (-1) (-1) 0 0 []),(Fld.mk 11 0 (-1) (-1) (-1) 0 10 [(Fld.mk 2 0 (-1) (-1) (-1) 0 0 []),(Fld.mk 3 0 (-1) (-1) (-1) 0 0 []),(Fld.mk 3 0 (-1) (-1) (-1) 0 0 []),(Fld.mk 3 0 (-1) (-1) (-1) (-1) 0 []),(Fld.mk 11 0 (-1) (-1) (-1) 0 3 []),(Fld.mk 11 0 (-1) (-1) (-1) 0 3 []),(Fld.mk 11 0 (-1) (-1) (-1) 0 3 []),(Fld.mk 11 0 (-1) (-1) (-1) 0 3 []),(Fld.mk 11 0 (-1) (-1) (-1) 0 3 [])]),(Fld.mk 3 0 (-1) (-1) (-1) (-2147483648) 0 [])]) (b:=Fld.nul (Fld.mk 10 0 (-1) (-1) (-1) 0 10 [(Fld.mk 2 0 (-1) (-1) (-1) 0 0 []),(Fld.mk 8 0 (-1) 0 (-1) 0 0 []),(Fld.mk 7 0 (-1) (-1) (-1) 0 0 []),(Fld.mk 0 0 (-1) (-1) (-1) 0 0 []),(Fld.mk 11 0 (-1) (-1) (-1) 0 10 [(Fld.mk 2 0 (-1) (-1) (-1) 0 0 []),(Fld.mk 3 0 (-1) (-1) (-1) 0 0 []),(Fld.mk 3 0 (-1) (-1) (-1) 0 0 []),(Fld.mk 3 0 (-1) (-1) (-1) (-1) 0 []),(Fld.mk 11 0 (-1) (-1) (-1) 0 3 []),(Fld.mk 11 0 (-1) (-1) (-1) 0 3 []),(Fld.mk 11 0 (-1) (-1) (-1) 0 3 []),(Fld.mk 11 0 (-1) (-1) (-1) 0 3 []),(Fld.mk 11 0 (-1) (-1) (-1) 0 3 [])]),(Fld.mk 3 0 (-1) (-1) (-1) (-2147483648) 0 [])]) v y) (x:=y)
   unfold qaW
   simp only [h.1,h.2]
   exact ⟨(trivial),(qkk (d:=6) (show [(Fld.mk 2 0 (-1) (-1) (-1) 0 0 []),(Fld.mk 8 0 (-1) 0 (-1) 0 0 []),(Fld.mk 7 0 (-1) (-1) (-1) 0 0 []),(Fld.mk 0 0 (-1) (-1) (-1) 0 0 []),(Fld.mk 11 0 (-1) (-1) (-1) 0 10 [(Fld.mk 2 0 (-1) (-1) (-1) 0 0 []),(Fld.mk 3 0 (-1) (-1) (-1) 0 0 []),(Fld.mk 3 0 (-1) (-1) (-1) 0 0 []),(Fld.mk 3 0 (-1) (-1) (-1) (-1) 0 []),(Fld.mk 11 0 (-1) (-1) (-1) 0 3 []),(Fld.mk 11 0 (-1) (-1) (-1) 0 3 []),(Fld.mk 11 0 (-1) (-1) (-1) 0 3 []),(Fld.mk 11 0 (-1) (-1) (-1) 0 3 []),(Fld.mk 11 0 (-1) (-1) (-1) 0 3 [])]),(Fld.mk 3 0 (-1) (-1) (-1) (-2147483648) 0 [])][1]? = _ from rfl) (by decide)),(trivial),(trivial),(⟨qfi (d:=6) (show [(Fld.mk 2 0 (-1) (-1) (-1) 0 0 []),(Fld.mk 8 0 (-1) 0 (-1) 0 0 []),(Fld.mk 7 0 (-1) (-1) (-1) 0 0 []),(Fld.mk 0 0 (-1) (-1) (-1) 0 0 []),(Fld.mk 11 0 (-1) (-1) (-1) 0 10 [(Fld.mk 2 0 (-1) (-1) (-1) 0 0 []),(Fld.mk 3 0 (-1) (-1) (-1) 0 0 []),(Fld.mk 3 0 (-1) (-1) (-1) 0 0 []),(Fld.mk 3 0 (-1) (-1) (-1) (-1) 0 []),(Fld.mk 11 0 (-1) (-1) (-1) 0 3 []),(Fld.mk 11 0 (-1) (-1) (-1) 0 3 []),(Fld.mk 11 0 (-1) (-1) (-1) 0 3 []),(Fld.mk 11 0 (-1) (-1) (-1) 0 3 []),(Fld.mk 11 0 (-1) (-1) (-1) 0 3 [])]),(Fld.mk 3 0 (-1) (-1) (-1) (-2147483648) 0 [])][4]? = _ from rfl),qi2 (d:=6) (Q:=qaI) (show [(Fld.mk 2 0 (-1) (-1) (-1) 0 0 []),(Fld.mk 8 0 (-1) 0 (-1) 0 0 []),(Fld.mk 7 0 (-1) (-1) (-1) 0 0 []),(Fld.mk 0 0 (-1) (-1) (-1) 0 0 []),(Fld.mk 11 0 (-1) (-1) (-1) 0 10 [(Fld.mk 2 0 (-1) (-1) (-1) 0 0 []),(Fld.mk 3 0 (-1) (-1) (-1) 0 0 []),(Fld.mk 3 0 (-1) (-1) (-1) 0 0 []),(Fld.mk 3 0 (-1) (-1) (-1) (-1) 0 []),(Fld.mk 11 0 (-1) (-1) (-1) 0 3 []),(Fld.mk 11 0 (-1) (-1) (-1) 0 3 []),(Fld.mk 11 0 (-1) (-1) (-1) 0 3 []),(Fld.mk 11 0 (-1) (-1) (-1) 0 3 []),(Fld.mk 11 0 (-1) (-1) (-1) 0 3 [])]),(Fld.mk 3 0 (-1) (-1) (-1) (-2147483648) 0 [])][4]? = _ from rfl) fun y=>by
     have h:=qhv (v:=v) (d:=6) (x1:=0) (x2:=-1) (x5:=0) (x6:=10) (s:=[(Fld.mk 2 0 (-1) (-1) (-1) 0 0 []),(Fld.mk 3 0 (-1) (-1) (-1) 0 0 []),(Fld.mk 3 0 (-1) (-1) (-1) 0 0 []),(Fld.mk 3 0 (-1) (-1) (-1) (-1) 0 []),(Fld.mk 11 0 (-1) (-1) (-1) 0 3 []),(Fld.mk 11 0 (-1) (-1) (-1) 0 3 []),(Fld.mk 11 0 (-1) (-1) (-1) 0 3 []),(Fld.mk 11 0 (-1) (-1) (-1) 0 3 []),(Fld.mk 11 0 (-1) (-1) (-1) 0 3 [])]) (b:=Fld.nul (Fld.mk 10 0 (-1) (-1) (-1) 0 10 [(Fld.mk 2 0 (-1) (-1) (-1) 0 0 []),(Fld.mk 3 0 (-1) (-1) (-1) 0 0 []),(Fld.mk 3 0 (-1) (-1) (-1) 0 0 []),(Fld.mk 3 0 (-1) (-1) (-1) (-1) 0 []),(Fld.mk 11 0 (-1) (-1) (-1) 0 3 []),(Fld.mk 11 0 (-1) (-1) (-1) 0 3 []),(Fld.mk 11 0 (-1) (-1) (-1) 0 3 []),(Fld.mk 11 0 (-1) (-1) (-1) 0 3 []),(Fld.mk 11 0 (-1) (-1) (-1) 0 3 [])]) v y) (x:=y)
     unfold qaI
     simp only [h.1,h.2]
     exact ⟨(trivial),(trivial),(trivial),(trivial),(qfi (d:=5) (show [(Fld.mk 2 0 (-1) (-1) (-1) 0 0 []),(Fld.mk 3 0 (-1) (-1) (-1) 0 0 []),(Fld.mk 3 0 (-1) (-1) (-1) 0 0 []),(Fld.mk 3 0 (-1) (-1) (-1) (-1) 0 []),(Fld.mk 11 0 (-1) (-1) (-1) 0 3 []),(Fld.mk 11 0 (-1) (-1) (-1) 0 3 []),(Fld.mk 11 0 (-1) (-1) (-1) 0 3 []),(Fld.mk 11 0 (-1) (-1) (-1) 0 3 []),(Fld.mk 11 0 (-1) (-1) (-1) 0 3 [])][4]? = _ from rfl)),(qfi (d:=5) (show [(Fld.mk 2 0 (-1) (-1) (-1) 0 0 []),(Fld.mk 3 0 (-1) (-1) (-1) 0 0 []),(Fld.mk 3 0 (-1) (-1) (-1) 0 0 []),(Fld.mk 3 0 (-1) (-1) (-1) (-1) 0 []),(Fld.mk 11 0 (-1) (-1) (-1) 0 3 []),(Fld.mk 11 0 (-1) (-1) (-1) 0 3 []),(Fld.mk 11 0 (-1) (-1) (-1) 0 3 []),(Fld.mk 11 0 (-1) (-1) (-1) 0 3 []),(Fld.mk 11 0 (-1) (-1) (-1) 0 3 [])][5]? = _ from rfl)),(qfi (d:=5) (show [(Fld.mk 2 0 (-1) (-1) (-1) 0 0 []),(Fld.mk 3 0 (-1) (-1) (-1) 0 0 []),(Fld.mk 3 0 (-1) (-1) (-1) 0 0 []),(Fld.mk 3 0 (-1) (-1) (-1) (-1) 0 []),(Fld.mk 11 0 (-1) (-1) (-1) 0 3 []),(Fld.mk 11 0 (-1) (-1) (-1) 0 3 []),(Fld.mk 11 0 (-1) (-1) (-1) 0 3 []),(Fld.mk 11 0 (-1) (-1) (-1) 0 3 []),(Fld.mk 11 0 (-1) (-1) (-1) 0 3 [])][6]? = _ from rfl)),(qfi (d:=5) (show [(Fld.mk 2 0 (-1) (-1) (-1) 0 0 []),(Fld.mk 3 0 (-1) (-1) (-1) 0 0 []),(Fld.mk 3 0 (-1) (-1) (-1) 0 0 []),(Fld.mk 3 0 (-1) (-1) (-1) (-1) 0 []),(Fld.mk 11 0 (-1) (-1) (-1) 0 3 []),(Fld.mk 11 0 (-1) (-1) (-1) 0 3 []),(Fld.mk 11 0 (-1) (-1) (-1) 0 3 []),(Fld.mk 11 0 (-1) (-1) (-1) 0 3 []),(Fld.mk 11 0 (-1) (-1) (-1) 0 3 [])][7]? = _ from rfl)),(qfi (d:=5) (show [(Fld.mk 2 0 (-1) (-1) (-1) 0 0 []),(Fld.mk 3 0 (-1) (-1) (-1) 0 0 []),(Fld.mk 3 0 (-1) (-1) (-1) 0 0 []),(Fld.mk 3 0 (-1) (-1) (-1) (-1) 0 []),(Fld.mk 11 0 (-1) (-1) (-1) 0 3 []),(Fld.mk 11 0 (-1) (-1) (-1) 0 3 []),(Fld.mk 11 0 (-1) (-1) (-1) 0 3 []),(Fld.mk 11 0 (-1) (-1) (-1) 0 3 []),(Fld.mk 11 0 (-1) (-1) (-1) 0 3 [])][8]? = _ from rfl)),(qe1),(trivial)⟩⟩),(trivial),(qe1),(trivial)⟩⟩),(by
   have h:=qi0 (v:=v) (d:=7) (t:=t) (show sDescribeTopicPartitionsResponseF[2]? = _ from rfl)
   unfold qaQ
   simp only [h.1,h.2.1]
   exact ⟨(by rw [qkK (d:=6) (show [(Fld.mk 8 0 (-1) (-1) (-1) 0 0 []),(Fld.mk 3 0 (-1) (-1) (-1) 0 0 [])][0]? = _ from rfl) (by decide)]; exact Nat.le_trans (qbn _) (by decide)),(trivial),(qe1),(trivial)⟩),(qe1),(trivial)⟩
set_option maxHeartbeats 4000000 in
theorem qcm (v:Int) (h0:0 ≤ v) (h1:v < 32768) (t:Tree):qa8 v (fitT v 8 sDescribeTopicPartitionsResponseF t) = qcE 8 sDescribeTopicPartitionsResponseF qao v t:=by
 have aO:((fitT v 8 sDescribeTopicPartitionsResponseF t).at_ 0).N = (t.at_ 0).N:=qf2 (d:=7) (show sDescribeTopicPartitionsResponseF[0]? = _ from rfl) (by decide)
 obtain ⟨f85n,aP⟩:=qeC (v:=v) (d:=7) (t:=t) (l:=sDescribeTopicPartitionsResponseF) (i:=1) (show sDescribeTopicPartitionsResponseF[1]? = _ from rfl)
 obtain ⟨aQ,f86u,f86n⟩:=qi0 (v:=v) (d:=7) (t:=t) (l:=sDescribeTopicPartitionsResponseF) (i:=2) (show sDescribeTopicPartitionsResponseF[2]? = _ from rfl)
 have aR:=qkK (v:=v) (d:=6) (t:=(t.at_ 2)) (l:=[(Fld.mk 8 0 (-1) (-1) (-1) 0 0 []),(Fld.mk 3 0 (-1) (-1) (-1) 0 0 [])]) (i:=0) (show [(Fld.mk 8 0 (-1) (-1) (-1) 0 0 []),(Fld.mk 3 0 (-1) (-1) (-1) 0 0 [])][0]? = _ from rfl) (by decide)
 have aS:((fitT v 7 [(Fld.mk 8 0 (-1) (-1) (-1) 0 0 []),(Fld.mk 3 0 (-1) (-1) (-1) 0 0 [])] (t.at_ 2)).at_ 1).N = ((t.at_ 2).at_ 1).N:=qf2 (d:=6) (show [(Fld.mk 8 0 (-1) (-1) (-1) 0 0 []),(Fld.mk 3 0 (-1) (-1) (-1) 0 0 [])][1]? = _ from rfl) (by decide)
 have aA:∀ ac:Tree,(fun Ek5:Tree=>(be 2 ((IntKind.i16.wrap (Ek5.at_ 0).N))) ++ ((if (decide (v ≥ 0)) = true then (if (Ek5.at_ 1).null = true then uv 0 else uv ((qdf (Ek5.at_ 1)).length + 1) ++ (qdf (Ek5.at_ 1))) else (if (Ek5.at_ 1).null = true then be 2 (-1) else be 2 (qdf (Ek5.at_ 1)).length ++ (qdf (Ek5.at_ 1)))) ++ (((qcL (Ek5.at_ 2).S)) ++ (([by8 (if (decide ((Ek5.at_ 3).N % 2 = 1)) then 1 else 0)]) ++ (((if (decide (v ≥ 0)) = true then (uv ((lst (Ek5.at_ 4)).length + 1)) else (be 4 (lst (Ek5.at_ 4)).length)) ++ ((lst (Ek5.at_ 4)).flatMap fun aa=>(be 2 ((IntKind.i16.wrap (aa.at_ 0).N))) ++ ((be 4 ((IntKind.i32.wrap (aa.at_ 1).N))) ++ ((be 4 ((IntKind.i32.wrap (aa.at_ 2).N))) ++ ((be 4 ((IntKind.i32.wrap (aa.at_ 3).N))) ++ (((if (decide (v ≥ 0)) = true then (uv ((lst (aa.at_ 4)).length + 1)) else (be 4 (lst (aa.at_ 4)).length)) ++ ((lst (aa.at_ 4)).flatMap fun ae=>be 4 ((IntKind.i32.wrap ae.N)))) ++ (((if (decide (v ≥ 0)) = true then (uv ((lst (aa.at_ 5)).length + 1)) else (be 4 (lst (aa.at_ 5)).length)) ++ ((lst (aa.at_ 5)).flatMap fun af=>be 4 ((IntKind.i32.wrap af.N)))) ++ (((if (decide (v ≥ 0)) = true then (if (aa.at_ 6).null = true then uv 0 else uv ((lst (aa.at_ 6)).length + 1)) else (if (aa.at_ 6).null = true then be 4 (-1) else be 4 (lst (aa.at_ 6)).length)) ++ ((lst (aa.at_ 6)).flatMap fun ag=>be 4 ((IntKind.i32.wrap ag.N)))) ++ (((if (decide (v ≥ 0)) = true then (if (aa.at_ 7).null = true then uv 0 else uv ((lst (aa.at_ 7)).length + 1)) else (if (aa.at_ 7).null = true then be 4 (-1) else be 4 (lst (aa.at_ 7)).length)) ++ ((lst (aa.at_ 7)).flatMap fun ah=>be 4 ((IntKind.i32.wrap ah.N)))) ++ (((if (decide (v ≥ 0)) = true then (uv ((lst (aa.at_ 8)).length + 1)) else (be 4 (lst (aa.at_ 8)).length)) ++ ((lst (aa.at_ 8)).flatMap fun ai=>be 4 ((IntKind.i32.wrap ai.N)))) ++ (if (decide (v ≥ 0)) = true then (uv aa.U.length) ++ (qbM aa.U) else []))))))))))) ++ ((be 4 ((IntKind.i32.wrap (Ek5.at_ 5).N))) ++ (if (decide (v ≥ 0)) = true then (uv Ek5.U.length) ++ (qbM Ek5.U) else []))))))) (qbf (fitT v 7) (Fld.mk 10 0 (-1) (-1) (-1) 0 10 [(Fld.mk 2 0 (-1) (-1) (-1) 0 0 []),(Fld.mk 8 0 (-1) 0 (-1) 0 0 []),(Fld.mk 7 0 (-1) (-1) (-1) 0 0 []),(Fld.mk 0 0 (-1) (-1) (-1) 0 0 []),(Fld.mk 11 0 (-1) (-1) (-1) 0 10 [(Fld.mk 2 0 (-1) (-1) (-1) 0 0 []),(Fld.mk 3 0 (-1) (-1) (-1) 0 0 []),(Fld.mk 3 0 (-1) (-1) (-1) 0 0 []),(Fld.mk 3 0 (-1) (-1) (-1) (-1) 0 []),(Fld.mk 11 0 (-1) (-1) (-1) 0 3 []),(Fld.mk 11 0 (-1) (-1) (-1) 0 3 []),(Fld.mk 11 0 (-1) (-1) (-1) 0 3 []),(Fld.mk 11 0 (-1) (-1) (-1) 0 3 []),(Fld.mk 11 0 (-1) (-1) (-1) 0 3 [])]),(Fld.mk 3 0 (-1) (-1) (-1) (-2147483648) 0 [])]) (Fld.nul (Fld.mk 10 0 (-1) (-1) (-1) 0 10 [(Fld.mk 2 0 (-1) (-1) (-1) 0 0 []),(Fld.mk 8 0 (-1) 0 (-1) 0 0 []),(Fld.mk 7 0 (-1) (-1) (-1) 0 0 []),(Fld.mk 0 0 (-1) (-1) (-1) 0 0 []),(Fld.mk 11 0 (-1) (-1) (-1) 0 10 [(Fld.mk 2 0 (-1) (-1) (-1) 0 0 []),(Fld.mk 3 0 (-1) (-1) (-1) 0 0 []),(Fld.mk 3 0 (-1) (-1) (-1) 0 0 []),(Fld.mk 3 0 (-1) (-1) (-1) (-1) 0 []),(Fld.mk 11 0 (-1) (-1) (-1) 0 3 []),(Fld.mk 11 0 (-1) (-1) (-1) 0 3 []),(Fld.mk 11 0 (-1) (-1) (-1) 0 3 []),(Fld.mk 11 0 (-1) (-1) (-1) 0 3 []),(Fld.mk 11 0 (-1) (-1) (-1) 0 3 [])]),(Fld.mk 3 0 (-1) (-1) (-1) (-2147483648) 0 [])]) v ac) ac) = qaX 7 [(Fld.mk 2 0 (-1) (-1) (-1) 0 0 []),(Fld.mk 8 0 (-1) 0 (-1) 0 0 []),(Fld.mk 7 0 (-1) (-1) (-1) 0 0 []),(Fld.mk 0 0 (-1) (-1) (-1) 0 0 []),(Fld.mk 11 0 (-1) (-1) (-1) 0 10 [(Fld.mk 2 0 (-1) (-1) (-1) 0 0 []),(Fld.mk 3 0 (-1) (-1) (-1) 0 0 []),(Fld.mk 3 0 (-1) (-1) (-1) 0 0 []),(Fld.mk 3 0 (-1) (-1) (-1) (-1) 0 []),(Fld.mk 11 0 (-1) (-1) (-1) 0 3 []),(Fld.mk 11 0 (-1) (-1) (-1) 0 3 []),(Fld.mk 11 0 (-1) (-1) (-1) 0 3 []),(Fld.mk 11 0 (-1) (-1) (-1) 0 3 []),(Fld.mk 11 0 (-1) (-1) (-1) 0 3 [])]),(Fld.mk 3 0 (-1) (-1) (-1) (-2147483648) 0 [])] v (decide (v ≥ 0)) ac:=by
  intro ac
  dsimp only
  obtain ⟨aB,aC⟩:=qhv (v:=v) (d:=7) (x1:=0) (x2:=-1) (x5:=0) (x6:=10) (s:=[(Fld.mk 2 0 (-1) (-1) (-1) 0 0 []),(Fld.mk 8 0 (-1) 0 (-1) 0 0 []),(Fld.mk 7 0 (-1) (-1) (-1) 0 0 []),(Fld.mk 0 0 (-1) (-1) (-1) 0 0 []),(Fld.mk 11 0 (-1) (-1) (-1) 0 10 [(Fld.mk 2 0 (-1) (-1) (-1) 0 0 []),(Fld.mk 3 0 (-1) (-1) (-1) 0 0 []),(Fld.mk 3 0 (-1) (-1) (-1) 0 0 []),(Fld.mk 3 0 (-1) (-1) (-1) (-1) 0 []),(Fld.mk 11 0 (-1) (-1) (-1) 0 3 []),(Fld.mk 11 0 (-1) (-1) (-1) 0 3 []),(Fld.mk 11 0 (-1) (-1) (-1) 0 3 []),(Fld.mk 11 0 (-1) (-1) (-1) 0 3 []),(Fld.mk 11 0 (-1) (-1) (-1) 0 3 [])]),(Fld.mk 3 0 (-1) (-1) (-1) (-2147483648) 0 [])]) (b:=Fld.nul (Fld.mk 10 0 (-1) (-1) (-1) 0 10 [(Fld.mk 2 0 (-1) (-1) (-1) 0 0 []),(Fld.mk 8 0 (-1) 0 (-1) 0 0 []),(Fld.mk 7 0 (-1) (-1) (-1) 0 0 []),(Fld.mk 0 0 (-1) (-1) (-1) 0 0 []),(Fld.mk 11 0 (-1) (-1) (-1) 0 10 [(Fld.mk 2 0 (-1) (-1) (-1) 0 0 []),(Fld.mk 3 0 (-1) (-1) (-1) 0 0 []),(Fld.mk 3 0 (-1) (-1) (-1) 0 0 []),(Fld.mk 3 0 (-1) (-1) (-1) (-1) 0 []),(Fld.mk 11 0 (-1) (-1) (-1) 0 3 []),(Fld.mk 11 0 (-1) (-1) (-1) 0 3 []),(Fld.mk 11 0 (-1) (-1) (-1) 0 3 []),(Fld.mk 11 0 (-1) (-1) (-1) 0 3 []),(Fld.mk 11 0 (-1) (-1) (-1) 0 3 [])]),(Fld.mk 3 0 (-1) (-1) (-1) (-2147483648) 0 [])]) v ac) (x:=ac)
  simp only [aB,aC]
  have aT:((fitT v 7 [(Fld.mk 2 0 (-1) (-1) (-1) 0 0 []),(Fld.mk 8 0 (-1) 0 (-1) 0 0 []),(Fld.mk 7 0 (-1) (-1) (-1) 0 0 []),(Fld.mk 0 0 (-1) (-1) (-1) 0 0 []),(Fld.mk 11 0 (-1) (-1) (-1) 0 10 [(Fld.mk 2 0 (-1) (-1) (-1) 0 0 []),(Fld.mk 3 0 (-1) (-1) (-1) 0 0 []),(Fld.mk 3 0 (-1) (-1) (-1) 0 0 []),(Fld.mk 3 0 (-1) (-1) (-1) (-1) 0 []),(Fld.mk 11 0 (-1) (-1) (-1) 0 3 []),(Fld.mk 11 0 (-1) (-1) (-1) 0 3 []),(Fld.mk 11 0 (-1) (-1) (-1) 0 3 []),(Fld.mk 11 0 (-1) (-1) (-1) 0 3 []),(Fld.mk 11 0 (-1) (-1) (-1) 0 3 [])]),(Fld.mk 3 0 (-1) (-1) (-1) (-2147483648) 0 [])] ac).at_ 0).N = (ac.at_ 0).N:=qf2 (d:=6) (show [(Fld.mk 2 0 (-1) (-1) (-1) 0 0 []),(Fld.mk 8 0 (-1) 0 (-1) 0 0 []),(Fld.mk 7 0 (-1) (-1) (-1) 0 0 []),(Fld.mk 0 0 (-1) (-1) (-1) 0 0 []),(Fld.mk 11 0 (-1) (-1) (-1) 0 10 [(Fld.mk 2 0 (-1) (-1) (-1) 0 0 []),(Fld.mk 3 0 (-1) (-1) (-1) 0 0 []),(Fld.mk 3 0 (-1) (-1) (-1) 0 0 []),(Fld.mk 3 0 (-1) (-1) (-1) (-1) 0 []),(Fld.mk 11 0 (-1) (-1) (-1) 0 3 []),(Fld.mk 11 0 (-1) (-1) (-1) 0 3 []),(Fld.mk 11 0 (-1) (-1) (-1) 0 3 []),(Fld.mk 11 0 (-1) (-1) (-1) 0 3 []),(Fld.mk 11 0 (-1) (-1) (-1) 0 3 [])]),(Fld.mk 3 0 (-1) (-1) (-1) (-2147483648) 0 [])][0]? = _ from rfl) (by decide)
  have aN:=qkI (v:=v) (d:=6) (t:=ac) (l:=[(Fld.mk 2 0 (-1) (-1) (-1) 0 0 []),(Fld.mk 8 0 (-1) 0 (-1) 0 0 []),(Fld.mk 7 0 (-1) (-1) (-1) 0 0 []),(Fld.mk 0 0 (-1) (-1) (-1) 0 0 []),(Fld.mk 11 0 (-1) (-1) (-1) 0 10 [(Fld.mk 2 0 (-1) (-1) (-1) 0 0 []),(Fld.mk 3 0 (-1) (-1) (-1) 0 0 []),(Fld.mk 3 0 (-1) (-1) (-1) 0 0 []),(Fld.mk 3 0 (-1) (-1) (-1) (-1) 0 []),(Fld.mk 11 0 (-1) (-1) (-1) 0 3 []),(Fld.mk 11 0 (-1) (-1) (-1) 0 3 []),(Fld.mk 11 0 (-1) (-1) (-1) 0 3 []),(Fld.mk 11 0 (-1) (-1) (-1) 0 3 []),(Fld.mk 11 0 (-1) (-1) (-1) 0 3 [])]),(Fld.mk 3 0 (-1) (-1) (-1) (-2147483648) 0 [])]) (i:=1) (show [(Fld.mk 2 0 (-1) (-1) (-1) 0 0 []),(Fld.mk 8 0 (-1) 0 (-1) 0 0 []),(Fld.mk 7 0 (-1) (-1) (-1) 0 0 []),(Fld.mk 0 0 (-1) (-1) (-1) 0 0 []),(Fld.mk 11 0 (-1) (-1) (-1) 0 10 [(Fld.mk 2 0 (-1) (-1) (-1) 0 0 []),(Fld.mk 3 0 (-1) (-1) (-1) 0 0 []),(Fld.mk 3 0 (-1) (-1) (-1) 0 0 []),(Fld.mk 3 0 (-1) (-1) (-1) (-1) 0 []),(Fld.mk 11 0 (-1) (-1) (-1) 0 3 []),(Fld.mk 11 0 (-1) (-1) (-1) 0 3 []),(Fld.mk 11 0 (-1) (-1) (-1) 0 3 []),(Fld.mk 11 0 (-1) (-1) (-1) 0 3 []),(Fld.mk 11 0 (-1) (-1) (-1) 0 3 [])]),(Fld.mk 3 0 (-1) (-1) (-1) (-2147483648) 0 [])][1]? = _ from rfl) (by decide)
  have aU:((fitT v 7 [(Fld.mk 2 0 (-1) (-1) (-1) 0 0 []),(Fld.mk 8 0 (-1) 0 (-1) 0 0 []),(Fld.mk 7 0 (-1) (-1) (-1) 0 0 []),(Fld.mk 0 0 (-1) (-1) (-1) 0 0 []),(Fld.mk 11 0 (-1) (-1) (-1) 0 10 [(Fld.mk 2 0 (-1) (-1) (-1) 0 0 []),(Fld.mk 3 0 (-1) (-1) (-1) 0 0 []),(Fld.mk 3 0 (-1) (-1) (-1) 0 0 []),(Fld.mk 3 0 (-1) (-1) (-1) (-1) 0 []),(Fld.mk 11 0 (-1) (-1) (-1) 0 3 []),(Fld.mk 11 0 (-1) (-1) (-1) 0 3 []),(Fld.mk 11 0 (-1) (-1) (-1) 0 3 []),(Fld.mk 11 0 (-1) (-1) (-1) 0 3 []),(Fld.mk 11 0 (-1) (-1) (-1) 0 3 [])]),(Fld.mk 3 0 (-1) (-1) (-1) (-2147483648) 0 [])] ac).at_ 2).S = (ac.at_ 2).S:=qkF (d:=6) (show [(Fld.mk 2 0 (-1) (-1) (-1) 0 0 []),(Fld.mk 8 0 (-1) 0 (-1) 0 0 []),(Fld.mk 7 0 (-1) (-1) (-1) 0 0 []),(Fld.mk 0 0 (-1) (-1) (-1) 0 0 []),(Fld.mk 11 0 (-1) (-1) (-1) 0 10 [(Fld.mk 2 0 (-1) (-1) (-1) 0 0 []),(Fld.mk 3 0 (-1) (-1) (-1) 0 0 []),(Fld.mk 3 0 (-1) (-1) (-1) 0 0 []),(Fld.mk 3 0 (-1) (-1) (-1) (-1) 0 []),(Fld.mk 11 0 (-1) (-1) (-1) 0 3 []),(Fld.mk 11 0 (-1) (-1) (-1) 0 3 []),(Fld.mk 11 0 (-1) (-1) (-1) 0 3 []),(Fld.mk 11 0 (-1) (-1) (-1) 0 3 []),(Fld.mk 11 0 (-1) (-1) (-1) 0 3 [])]),(Fld.mk 3 0 (-1) (-1) (-1) (-2147483648) 0 [])][2]? = _ from rfl) (by decide)
  have aV:((fitT v 7 [(Fld.mk 2 0 (-1) (-1) (-1) 0 0 []),(Fld.mk 8 0 (-1) 0 (-1) 0 0 []),(Fld.mk 7 0 (-1) (-1) (-1) 0 0 []),(Fld.mk 0 0 (-1) (-1) (-1) 0 0 []),(Fld.mk 11 0 (-1) (-1) (-1) 0 10 [(Fld.mk 2 0 (-1) (-1) (-1) 0 0 []),(Fld.mk 3 0 (-1) (-1) (-1) 0 0 []),(Fld.mk 3 0 (-1) (-1) (-1) 0 0 []),(Fld.mk 3 0 (-1) (-1) (-1) (-1) 0 []),(Fld.mk 11 0 (-1) (-1) (-1) 0 3 []),(Fld.mk 11 0 (-1) (-1) (-1) 0 3 []),(Fld.mk 11 0 (-1) (-1) (-1) 0 3 []),(Fld.mk 11 0 (-1) (-1) (-1) 0 3 []),(Fld.mk 11 0 (-1) (-1) (-1) 0 3 [])]),(Fld.mk 3 0 (-1) (-1) (-1) (-2147483648) 0 [])] ac).at_ 3).N = (ac.at_ 3).N:=qf2 (d:=6) (show [(Fld.mk 2 0 (-1) (-1) (-1) 0 0 []),(Fld.mk 8 0 (-1) 0 (-1) 0 0 []),(Fld.mk 7 0 (-1) (-1) (-1) 0 0 []),(Fld.mk 0 0 (-1) (-1) (-1) 0 0 []),(Fld.mk 11 0 (-1) (-1) (-1) 0 10 [(Fld.mk 2 0 (-1) (-1) (-1) 0 0 []),(Fld.mk 3 0 (-1) (-1) (-1) 0 0 []),(Fld.mk 3 0 (-1) (-1) (-1) 0 0 []),(Fld.mk 3 0 (-1) (-1) (-1) (-1) 0 []),(Fld.mk 11 0 (-1) (-1) (-1) 0 3 []),(Fld.mk 11 0 (-1) (-1) (-1) 0 3 []),(Fld.mk 11 0 (-1) (-1) (-1) 0 3 []),(Fld.mk 11 0 (-1) (-1) (-1) 0 3 []),(Fld.mk 11 0 (-1) (-1) (-1) 0 3 [])]),(Fld.mk 3 0 (-1) (-1) (-1) (-2147483648) 0 [])][3]? = _ from rfl) (by decide)
  obtain ⟨f96n,aW⟩:=qeC (v:=v) (d:=6) (t:=ac) (l:=[(Fld.mk 2 0 (-1) (-1) (-1) 0 0 []),(Fld.mk 8 0 (-1) 0 (-1) 0 0 []),(Fld.mk 7 0 (-1) (-1) (-1) 0 0 []),(Fld.mk 0 0 (-1) (-1) (-1) 0 0 []),(Fld.mk 11 0 (-1) (-1) (-1) 0 10 [(Fld.mk 2 0 (-1) (-1) (-1) 0 0 []),(Fld.mk 3 0 (-1) (-1) (-1) 0 0 []),(Fld.mk 3 0 (-1) (-1) (-1) 0 0 []),(Fld.mk 3 0 (-1) (-1) (-1) (-1) 0 []),(Fld.mk 11 0 (-1) (-1) (-1) 0 3 []),(Fld.mk 11 0 (-1) (-1) (-1) 0 3 []),(Fld.mk 11 0 (-1) (-1) (-1) 0 3 []),(Fld.mk 11 0 (-1) (-1) (-1) 0 3 []),(Fld.mk 11 0 (-1) (-1) (-1) 0 3 [])]),(Fld.mk 3 0 (-1) (-1) (-1) (-2147483648) 0 [])]) (i:=4) (show [(Fld.mk 2 0 (-1) (-1) (-1) 0 0 []),(Fld.mk 8 0 (-1) 0 (-1) 0 0 []),(Fld.mk 7 0 (-1) (-1) (-1) 0 0 []),(Fld.mk 0 0 (-1) (-1) (-1) 0 0 []),(Fld.mk 11 0 (-1) (-1) (-1) 0 10 [(Fld.mk 2 0 (-1) (-1) (-1) 0 0 []),(Fld.mk 3 0 (-1) (-1) (-1) 0 0 []),(Fld.mk 3 0 (-1) (-1) (-1) 0 0 []),(Fld.mk 3 0 (-1) (-1) (-1) (-1) 0 []),(Fld.mk 11 0 (-1) (-1) (-1) 0 3 []),(Fld.mk 11 0 (-1) (-1) (-1) 0 3 []),(Fld.mk 11 0 (-1) (-1) (-1) 0 3 []),(Fld.mk 11 0 (-1) (-1) (-1) 0 3 []),(Fld.mk 11 0 (-1) (-1) (-1) 0 3 [])]),(Fld.mk 3 0 (-1) (-1) (-1) (-2147483648) 0 [])][4]? = _ from rfl)
  have aX:((fitT v 7 [(Fld.mk 2 0 (-1) (-1) (-1) 0 0 []),(Fld.mk 8 0 (-1) 0 (-1) 0 0 []),(Fld.mk 7 0 (-1) (-1) (-1) 0 0 []),(Fld.mk 0 0 (-1) (-1) (-1) 0 0 []),(Fld.mk 11 0 (-1) (-1) (-1) 0 10 [(Fld.mk 2 0 (-1) (-1) (-1) 0 0 []),(Fld.mk 3 0 (-1) (-1) (-1) 0 0 []),(Fld.mk 3 0 (-1) (-1) (-1) 0 0 []),(Fld.mk 3 0 (-1) (-1) (-1) (-1) 0 []),(Fld.mk 11 0 (-1) (-1) (-1) 0 3 []),(Fld.mk 11 0 (-1) (-1) (-1) 0 3 []),(Fld.mk 11 0 (-1) (-1) (-1) 0 3 []),(Fld.mk 11 0 (-1) (-1) (-1) 0 3 []),(Fld.mk 11 0 (-1) (-1) (-1) 0 3 [])]),(Fld.mk 3 0 (-1) (-1) (-1) (-2147483648) 0 [])] ac).at_ 5).N = (ac.at_ 5).N:=qf2 (d:=6) (show [(Fld.mk 2 0 (-1) (-1) (-1) 0 0 []),(Fld.mk 8 0 (-1) 0 (-1) 0 0 []),(Fld.mk 7 0 (-1) (-1) (-1) 0 0 []),(Fld.mk 0 0 (-1) (-1) (-1) 0 0 []),(Fld.mk 11 0 (-1) (-1) (-1) 0 10 [(Fld.mk 2 0 (-1) (-1) (-1) 0 0 []),(Fld.mk 3 0 (-1) (-1) (-1) 0 0 []),(Fld.mk 3 0 (-1) (-1) (-1) 0 0 []),(Fld.mk 3 0 (-1) (-1) (-1) (-1) 0 []),(Fld.mk 11 0 (-1) (-1) (-1) 0 3 []),(Fld.mk 11 0 (-1) (-1) (-1) 0 3 []),(Fld.mk 11 0 (-1) (-1) (-1) 0 3 []),(Fld.mk 11 0 (-1) (-1) (-1) 0 3 []),(Fld.mk 11 0 (-1) (-1) (-1) 0 3 [])]),(Fld.mk 3 0 (-1) (-1) (-1) (-2147483648) 0 [])][5]? = _ from rfl) (by decide)
  have aD:∀ ab:Tree,(fun aa:Tree=>(be 2 ((IntKind.i16.wrap (aa.at_ 0).N))) ++ ((be 4 ((IntKind.i32.wrap (aa.at_ 1).N))) ++ ((be 4 ((IntKind.i32.wrap (aa.at_ 2).N))) ++ ((be 4 ((IntKind.i32.wrap (aa.at_ 3).N))) ++ (((if (decide (v ≥ 0)) = true then (uv ((lst (aa.at_ 4)).length + 1)) else (be 4 (lst (aa.at_ 4)).length)) ++ ((lst (aa.at_ 4)).flatMap fun ae=>be 4 ((IntKind.i32.wrap ae.N)))) ++ (((if (decide (v ≥ 0)) = true then (uv ((lst (aa.at_ 5)).length + 1)) else (be 4 (lst (aa.at_ 5)).length)) ++ ((lst (aa.at_ 5)).flatMap fun af=>be 4 ((IntKind.i32.wrap af.N)))) ++ (((if (decide (v ≥ 0)) = true then (if (aa.at_ 6).null = true then uv 0 else uv ((lst (aa.at_ 6)).length + 1)) else (if (aa.at_ 6).null = true then be 4 (-1) else be 4 (lst (aa.at_ 6)).length)) ++ ((lst (aa.at_ 6)).flatMap fun ag=>be 4 ((IntKind.i32.wrap ag.N)))) ++ (((if (decide (v ≥ 0)) = true then (if (aa.at_ 7).null = true then uv 0 else uv ((lst (aa.at_ 7)).length + 1)) else (if (aa.at_ 7).null = true then be 4 (-1) else be 4 (lst (aa.at_ 7)).length)) ++ ((lst (aa.at_ 7)).flatMap fun ah=>be 4 ((IntKind.i32.wrap ah.N)))) ++ (((if (decide (v ≥ 0)) = true then (uv ((lst (aa.at_ 8)).length + 1)) else (be 4 (lst (aa.at_ 8)).length)) ++ ((lst (aa.at_ 8)).flatMap fun ai=>be 4 ((IntKind.i32.wrap ai.N)))) ++ (if (decide (v ≥ 0)) = true then (uv aa.U.length) ++ (qbM aa.U) else [])))))))))) (qbf (fitT v 6) (Fld.mk 10 0 (-1) (-1) (-1) 0 10 [(Fld.mk 2 0 (-1) (-1) (-1) 0 0 []),(Fld.mk 3 0 (-1) (-1) (-1) 0 0 []),(Fld.mk 3 0 (-1) (-1) (-1) 0 0 []),(Fld.mk 3 0 (-1) (-1) (-1) (-1) 0 []),(Fld.mk 11 0 (-1) (-1) (-1) 0 3 []),(Fld.mk 11 0 (-1) (-1) (-1) 0 3 []),(Fld.mk 11 0 (-1) (-1) (-1) 0 3 []),(Fld.mk 11 0 (-1) (-1) (-1) 0 3 []),(Fld.mk 11 0 (-1) (-1) (-1) 0 3 [])]) (Fld.nul (Fld.mk 10 0 (-1) (-1) (-1) 0 10 [(Fld.mk 2 0 (-1) (-1) (-1) 0 0 []),(Fld.mk 3 0 (-1) (-1) (-1) 0 0 []),(Fld.mk 3 0 (-1) (-1) (-1) 0 0 []),(Fld.mk 3 0 (-1) (-1) (-1) (-1) 0 []),(Fld.mk 11 0 (-1) (-1) (-1) 0 3 []),(Fld.mk 11 0 (-1) (-1) (-1) 0 3 []),(Fld.mk 11 0 (-1) (-1) (-1) 0 3 []),(Fld.mk 11 0 (-1) (-1) (-1) 0 3 []),(Fld.mk 11 0 (-1) (-1) (-1) 0 3 [])]) v ab) ab) = qaX 6 [(Fld.mk 2 0 (-1) (-1) (-1) 0 0 []),(Fld.mk 3 0 (-1) (-1) (-1) 0 0 []),(Fld.mk 3 0 (-1) (-1) (-1) 0 0 []),(Fld.mk 3 0 (-1) (-1) (-1) (-1) 0 []),(Fld.mk 11 0 (-1) (-1) (-1) 0 3 []),(Fld.mk 11 0 (-1) (-1) (-1) 0 3 []),(Fld.mk 11 0 (-1) (-1) (-1) 0 3 []),(Fld.mk 11 0 (-1) (-1) (-1) 0 3 []),(Fld.mk 11 0 (-1) (-1) (-1) 0 3 [])] v (decide (v ≥ 0)) ab:=by
   intro ab
   dsimp only
   obtain ⟨ap,ar⟩:=qhv (v:=v) (d:=6) (x1:=0) (x2:=-1) (x5:=0) (x6:=10) (s:=[(Fld.mk 2 0 (-1) (-1) (-1) 0 0 []),(Fld.mk 3 0 (-1) (-1) (-1) 0 0 []),(Fld.mk 3 0 (-1) (-1) (-1) 0 0 []),(Fld.mk 3 0 (-1) (-1) (-1) (-1) 0 []),(Fld.mk 11 0 (-1) (-1) (-1) 0 3 []),(Fld.mk 11 0 (-1) (-1) (-1) 0 3 []),(Fld.mk 11 0 (-1) (-1) (-1) 0 3 []),(Fld.mk 11 0 (-1) (-1) (-1) 0 3 []),(Fld.mk 11 0 (-1) (-1) (-1) 0 3 [])]) (b:=Fld.nul (Fld.mk 10 0 (-1) (-1) (-1) 0 10 [(Fld.mk 2 0 (-1) (-1) (-1) 0 0 []),(Fld.mk 3 0 (-1) (-1) (-1) 0 0 []),(Fld.mk 3 0 (-1) (-1) (-1) 0 0 []),(Fld.mk 3 0 (-1) (-1) (-1) (-1) 0 []),(Fld.mk 11 0 (-1) (-1) (-1) 0 3 []),(Fld.mk 11 0 (-1) (-1) (-1) 0 3 []),(Fld.mk 11 0 (-1) (-1) (-1) 0 3 []),(Fld.mk 11 0 (-1) (-1) (-1) 0 3 []),(Fld.mk 11 0 (-1) (-1) (-1) 0 3 [])]) v ab) (x:=ab)
   simp only [ap,ar]
   have aE:((fitT v 6 [(Fld.mk 2 0 (-1) (-1) (-1) 0 0 []),(Fld.mk 3 0 (-1) (-1) (-1) 0 0 []),(Fld.mk 3 0 (-1) (-1) (-1) 0 0 []),(Fld.mk 3 0 (-1) (-1) (-1) (-1) 0 []),(Fld.mk 11 0 (-1) (-1) (-1) 0 3 []),(Fld.mk 11 0 (-1) (-1) (-1) 0 3 []),(Fld.mk 11 0 (-1) (-1) (-1) 0 3 []),(Fld.mk 11 0 (-1) (-1) (-1) 0 3 []),(Fld.mk 11 0 (-1) (-1) (-1) 0 3 [])] ab).at_ 0).N = (ab.at_ 0).N:=qf2 (d:=5) (show [(Fld.mk 2 0 (-1) (-1) (-1) 0 0 []),(Fld.mk 3 0 (-1) (-1) (-1) 0 0 []),(Fld.mk 3 0 (-1) (-1) (-1) 0 0 []),(Fld.mk 3 0 (-1) (-1) (-1) (-1) 0 []),(Fld.mk 11 0 (-1) (-1) (-1) 0 3 []),(Fld.mk 11 0 (-1) (-1) (-1) 0 3 []),(Fld.mk 11 0 (-1) (-1) (-1) 0 3 []),(Fld.mk 11 0 (-1) (-1) (-1) 0 3 []),(Fld.mk 11 0 (-1) (-1) (-1) 0 3 [])][0]? = _ from rfl) (by decide)
   have aF:((fitT v 6 [(Fld.mk 2 0 (-1) (-1) (-1) 0 0 []),(Fld.mk 3 0 (-1) (-1) (-1) 0 0 []),(Fld.mk 3 0 (-1) (-1) (-1) 0 0 []),(Fld.mk 3 0 (-1) (-1) (-1) (-1) 0 []),(Fld.mk 11 0 (-1) (-1) (-1) 0 3 []),(Fld.mk 11 0 (-1) (-1) (-1) 0 3 []),(Fld.mk 11 0 (-1) (-1) (-1) 0 3 []),(Fld.mk 11 0 (-1) (-1) (-1) 0 3 []),(Fld.mk 11 0 (-1) (-1) (-1) 0 3 [])] ab).at_ 1).N = (ab.at_ 1).N:=qf2 (d:=5) (show [(Fld.mk 2 0 (-1) (-1) (-1) 0 0 []),(Fld.mk 3 0 (-1) (-1) (-1) 0 0 []),(Fld.mk 3 0 (-1) (-1) (-1) 0 0 []),(Fld.mk 3 0 (-1) (-1) (-1) (-1) 0 []),(Fld.mk 11 0 (-1) (-1) (-1) 0 3 []),(Fld.mk 11 0 (-1) (-1) (-1) 0 3 []),(Fld.mk 11 0 (-1) (-1) (-1) 0 3 []),(Fld.mk 11 0 (-1) (-1) (-1) 0 3 []),(Fld.mk 11 0 (-1) (-1) (-1) 0 3 [])][1]? = _ from rfl) (by decide)
   have aG:((fitT v 6 [(Fld.mk 2 0 (-1) (-1) (-1) 0 0 []),(Fld.mk 3 0 (-1) (-1) (-1) 0 0 []),(Fld.mk 3 0 (-1) (-1) (-1) 0 0 []),(Fld.mk 3 0 (-1) (-1) (-1) (-1) 0 []),(Fld.mk 11 0 (-1) (-1) (-1) 0 3 []),(Fld.mk 11 0 (-1) (-1) (-1) 0 3 []),(Fld.mk 11 0 (-1) (-1) (-1) 0 3 []),(Fld.mk 11 0 (-1) (-1) (-1) 0 3 []),(Fld.mk 11 0 (-1) (-1) (-1) 0 3 [])] ab).at_ 2).N = (ab.at_ 2).N:=qf2 (d:=5) (show [(Fld.mk 2 0 (-1) (-1) (-1) 0 0 []),(Fld.mk 3 0 (-1) (-1) (-1) 0 0 []),(Fld.mk 3 0 (-1) (-1) (-1) 0 0 []),(Fld.mk 3 0 (-1) (-1) (-1) (-1) 0 []),(Fld.mk 11 0 (-1) (-1) (-1) 0 3 []),(Fld.mk 11 0 (-1) (-1) (-1) 0 3 []),(Fld.mk 11 0 (-1) (-1) (-1) 0 3 []),(Fld.mk 11 0 (-1) (-1) (-1) 0 3 []),(Fld.mk 11 0 (-1) (-1) (-1) 0 3 [])][2]? = _ from rfl) (by decide)
   have aH:((fitT v 6 [(Fld.mk 2 0 (-1) (-1) (-1) 0 0 []),(Fld.mk 3 0 (-1) (-1) (-1) 0 0 []),(Fld.mk 3 0 (-1) (-1) (-1) 0 0 []),(Fld.mk 3 0 (-1) (-1) (-1) (-1) 0 []),(Fld.mk 11 0 (-1) (-1) (-1) 0 3 []),(Fld.mk 11 0 (-1) (-1) (-1) 0 3 []),(Fld.mk 11 0 (-1) (-1) (-1) 0 3 []),(Fld.mk 11 0 (-1) (-1) (-1) 0 3 []),(Fld.mk 11 0 (-1) (-1) (-1) 0 3 [])] ab).at_ 3).N = (ab.at_ 3).N:=qf2 (d:=5) (show [(Fld.mk 2 0 (-1) (-1) (-1) 0 0 []),(Fld.mk 3 0 (-1) (-1) (-1) 0 0 []),(Fld.mk 3 0 (-1) (-1) (-1) 0 0 []),(Fld.mk 3 0 (-1) (-1) (-1) (-1) 0 []),(Fld.mk 11 0 (-1) (-1) (-1) 0 3 []),(Fld.mk 11 0 (-1) (-1) (-1) 0 3 []),(Fld.mk 11 0 (-1) (-1) (-1) 0 3 []),(Fld.mk 11 0 (-1) (-1) (-1) 0 3 []),(Fld.mk 11 0 (-1) (-1) (-1) 0 3 [])][3]? = _ from rfl) (by decide)
   obtain ⟨f105n,aI⟩:=qeC (v:=v) (d:=5) (t:=ab) (l:=[(Fld.mk 2 0 (-1) (-1) (-1) 0 0 []),(Fld.mk 3 0 (-1) (-1) (-1) 0 0 []),(Fld.mk 3 0 (-1) (-1) (-1) 0 0 []),(Fld.mk 3 0 (-1) (-1) (-1) (-1) 0 []),(Fld.mk 11 0 (-1) (-1) (-1) 0 3 []),(Fld.mk 11 0 (-1) (-1) (-1) 0 3 []),(Fld.mk 11 0 (-1) (-1) (-1) 0 3 []),(Fld.mk 11 0 (-1) (-1) (-1) 0 3 []),(Fld.mk 11 0 (-1) (-1) (-1) 0 3 [])]) (i:=4) (show [(Fld.mk 2 0 (-1) (-1) (-1) 0 0 []),(Fld.mk 3 0 (-1) (-1) (-1) 0 0 []),(Fld.mk 3 0 (-1) (-1) (-1) 0 0 []),(Fld.mk 3 0 (-1) (-1) (-1) (-1) 0 []),(Fld.mk 11 0 (-1) (-1) (-1) 0 3 []),(Fld.mk 11 0 (-1) (-1) (-1) 0 3 []),(Fld.mk 11 0 (-1) (-1) (-1) 0 3 []),(Fld.mk 11 0 (-1) (-1) (-1) 0 3 []),(Fld.mk 11 0 (-1) (-1) (-1) 0 3 [])][4]? = _ from rfl)
   obtain ⟨f106n,aJ⟩:=qeC (v:=v) (d:=5) (t:=ab) (l:=[(Fld.mk 2 0 (-1) (-1) (-1) 0 0 []),(Fld.mk 3 0 (-1) (-1) (-1) 0 0 []),(Fld.mk 3 0 (-1) (-1) (-1) 0 0 []),(Fld.mk 3 0 (-1) (-1) (-1) (-1) 0 []),(Fld.mk 11 0 (-1) (-1) (-1) 0 3 []),(Fld.mk 11 0 (-1) (-1) (-1) 0 3 []),(Fld.mk 11 0 (-1) (-1) (-1) 0 3 []),(Fld.mk 11 0 (-1) (-1) (-1) 0 3 []),(Fld.mk 11 0 (-1) (-1) (-1) 0 3 [])]) (i:=5) (show [(Fld.mk 2 0 (-1) (-1) (-1) 0 0 []),(Fld.mk 3 0 (-1) (-1) (-1) 0 0 []),(Fld.mk 3 0 (-1) (-1) (-1) 0 0 []),(Fld.mk 3 0 (-1) (-1) (-1) (-1) 0 []),(Fld.mk 11 0 (-1) (-1) (-1) 0 3 []),(Fld.mk 11 0 (-1) (-1) (-1) 0 3 []),(Fld.mk 11 0 (-1) (-1) (-1) 0 3 []),(Fld.mk 11 0 (-1) (-1) (-1) 0 3 []),(Fld.mk 11 0 (-1) (-1) (-1) 0 3 [])][5]? = _ from rfl)
   obtain ⟨f107n,aK⟩:=qeC (v:=v) (d:=5) (t:=ab) (l:=[(Fld.mk 2 0 (-1) (-1) (-1) 0 0 []),(Fld.mk 3 0 (-1) (-1) (-1) 0 0 []),(Fld.mk 3 0 (-1) (-1) (-1) 0 0 []),(Fld.mk 3 0 (-1) (-1) (-1) (-1) 0 []),(Fld.mk 11 0 (-1) (-1) (-1) 0 3 []),(Fld.mk 11 0 (-1) (-1) (-1) 0 3 []),(Fld.mk 11 0 (-1) (-1) (-1) 0 3 []),(Fld.mk 11 0 (-1) (-1) (-1) 0 3 []),(Fld.mk 11 0 (-1) (-1) (-1) 0 3 [])]) (i:=6) (show [(Fld.mk 2 0 (-1) (-1) (-1) 0 0 []),(Fld.mk 3 0 (-1) (-1) (-1) 0 0 []),(Fld.mk 3 0 (-1) (-1) (-1) 0 0 []),(Fld.mk 3 0 (-1) (-1) (-1) (-1) 0 []),(Fld.mk 11 0 (-1) (-1) (-1) 0 3 []),(Fld.mk 11 0 (-1) (-1) (-1) 0 3 []),(Fld.mk 11 0 (-1) (-1) (-1) 0 3 []),(Fld.mk 11 0 (-1) (-1) (-1) 0 3 []),(Fld.mk 11 0 (-1) (-1) (-1) 0 3 [])][6]? = _ from rfl)
   obtain ⟨f108n,aL⟩:=qeC (v:=v) (d:=5) (t:=ab) (l:=[(Fld.mk 2 0 (-1) (-1) (-1) 0 0 []),(Fld.mk 3 0 (-1) (-1) (-1) 0 0 []),(Fld.mk 3 0 (-1) (-1) (-1) 0 0 []),(Fld.mk 3 0 (-1) (-1) (-1) (-1) 0 []),(Fld.mk 11 0 (-1) (-1) (-1) 0 3 []),(Fld.mk 11 0 (-1) (-1) (-1) 0 3 []),(Fld.mk 11 0 (-1) (-1) (-1) 0 3 []),(Fld.mk 11 0 (-1) (-1) (-1) 0 3 []),(Fld.mk 11 0 (-1) (-1) (-1) 0 3 [])]) (i:=7) (show [(Fld.mk 2 0 (-1) (-1) (-1) 0 0 []),(Fld.mk 3 0 (-1) (-1) (-1) 0 0 []),(Fld.mk 3 0 (-1) (-1) (-1) 0 0 []),(Fld.mk 3 0 (-1) (-1) (-1) (-1) 0 []),(Fld.mk 11 0 (-1) (-1) (-1) 0 3 []),(Fld.mk 11 0 (-1) (-1) (-1) 0 3 []),(Fld.mk 11 0 (-1) (-1) (-1) 0 3 []),(Fld.mk 11 0 (-1) (-1) (-1) 0 3 []),(Fld.mk 11 0 (-1) (-1) (-1) 0 3 [])][7]? = _ from rfl)
   obtain ⟨f109n,aM⟩:=qeC (v:=v) (d:=5) (t:=ab) (l:=[(Fld.mk 2 0 (-1) (-1) (-1) 0 0 []),(Fld.mk 3 0 (-1) (-1) (-1) 0 0 []),(Fld.mk 3 0 (-1) (-1) (-1) 0 0 []),(Fld.mk 3 0 (-1) (-1) (-1) (-1) 0 []),(Fld.mk 11 0 (-1) (-1) (-1) 0 3 []),(Fld.mk 11 0 (-1) (-1) (-1) 0 3 []),(Fld.mk 11 0 (-1) (-1) (-1) 0 3 []),(Fld.mk 11 0 (-1) (-1) (-1) 0 3 []),(Fld.mk 11 0 (-1) (-1) (-1) 0 3 [])]) (i:=8) (show [(Fld.mk 2 0 (-1) (-1) (-1) 0 0 []),(Fld.mk 3 0 (-1) (-1) (-1) 0 0 []),(Fld.mk 3 0 (-1) (-1) (-1) 0 0 []),(Fld.mk 3 0 (-1) (-1) (-1) (-1) 0 []),(Fld.mk 11 0 (-1) (-1) (-1) 0 3 []),(Fld.mk 11 0 (-1) (-1) (-1) 0 3 []),(Fld.mk 11 0 (-1) (-1) (-1) 0 3 []),(Fld.mk 11 0 (-1) (-1) (-1) 0 3 []),(Fld.mk 11 0 (-1) (-1) (-1) 0 3 [])][8]? = _ from rfl)
   have au:∀ aj:Tree,(fun ae:Tree=>be 4 ((IntKind.i32.wrap ae.N))) (qbf (fitT v 5) (Fld.mk 3 0 (-1) (-1) (-1) 0 3 []) (Fld.nul (Fld.mk 3 0 (-1) (-1) (-1) 0 3 []) v aj) aj) = be 4 aj.N:=by
    intro aj
    dsimp only
    cases aj; simp [qbf,Fld.kind,Tree.N,be4_i32',qdm,qdE,qeQ]
   have av:∀ ak:Tree,(fun af:Tree=>be 4 ((IntKind.i32.wrap af.N))) (qbf (fitT v 5) (Fld.mk 3 0 (-1) (-1) (-1) 0 3 []) (Fld.nul (Fld.mk 3 0 (-1) (-1) (-1) 0 3 []) v ak) ak) = be 4 ak.N:=by
    intro ak
    dsimp only
    cases ak; simp [qbf,Fld.kind,Tree.N,be4_i32',qdm,qdE,qeQ]
   have aw:∀ al:Tree,(fun ag:Tree=>be 4 ((IntKind.i32.wrap ag.N))) (qbf (fitT v 5) (Fld.mk 3 0 (-1) (-1) (-1) 0 3 []) (Fld.nul (Fld.mk 3 0 (-1) (-1) (-1) 0 3 []) v al) al) = be 4 al.N:=by
    intro al
    dsimp only
    cases al; simp [qbf,Fld.kind,Tree.N,be4_i32',qdm,qdE,qeQ]
   have ax:∀ am:Tree,(fun ah:Tree=>be 4 ((IntKind.i32.wrap ah.N))) (qbf (fitT v 5) (Fld.mk 3 0 (-1) (-1) (-1) 0 3 []) (Fld.nul (Fld.mk 3 0 (-1) (-1) (-1) 0 3 []) v am) am) = be 4 am.N:=by
    intro am
    dsimp only
    cases am; simp [qbf,Fld.kind,Tree.N,be4_i32',qdm,qdE,qeQ]
   have ay:∀ ao:Tree,(fun ai:Tree=>be 4 ((IntKind.i32.wrap ai.N))) (qbf (fitT v 5) (Fld.mk 3 0 (-1) (-1) (-1) 0 3 []) (Fld.nul (Fld.mk 3 0 (-1) (-1) (-1) 0 3 []) v ao) ao) = be 4 ao.N:=by
    intro ao
    dsimp only
    cases ao; simp [qbf,Fld.kind,Tree.N,be4_i32',qdm,qdE,qeQ]
   simp only [qjF,qed,qcQ,List.flatMap_map,List.length_map,aE,aF,aG,aH,f105n,aI,f106n,aJ,f107n,aK,f108n,aL,f109n,aM]
   simp only [au,av,aw,ax,ay]
   try simp only [be4_i32',qdm,qdE,qeQ,qeU,qdo,qkm,qg4]
   first | (exfalso; omega) | simp [qaX,qem,qaJ,Fld.tag,Fld.has,qdc,Fld.kind,Fld.null,Fld.of,Fld.sub,qaL,qbv,qaS,qaA,qaq,qan,uv0,qi1,h0]
  simp only [qjF,qed,qcQ,List.flatMap_map,List.length_map,aT,aN.1,aN.2,aU,aV,f96n,aW,aX]
  simp only [aD]
  try simp only [be4_i32',qdm,qdE,qeQ,qeU,qdo,qkm,qg4]
  by_cases n0:Fld.nul (Fld.mk 8 0 (-1) 0 (-1) 0 0 []) v (ac.at_ 1) = true <;> (try have m0:=qj1 n0) <;> first | (exfalso; omega) | simp [qaX,qem,qaJ,Fld.tag,Fld.has,qdc,Fld.kind,Fld.null,Fld.of,Fld.sub,qaL,qbv,qaS,qaA,qaq,qan,uv0,qi1,n0,h0]
 unfold qa8
 simp only [qjF,qed,qcQ,List.flatMap_map,List.length_map,aO,f85n,aP,aQ,f86u,f86n,aR,aS]
 simp only [aA]
 try simp only [be4_i32',qdm,qdE,qeQ,qeU,qdo,qkm,qg4]
 by_cases n0:Fld.nul (Fld.mk 10 0 (-1) 0 (-1) 0 0 [(Fld.mk 8 0 (-1) (-1) (-1) 0 0 []),(Fld.mk 3 0 (-1) (-1) (-1) 0 0 [])]) v (t.at_ 2) = true <;> (try have m0:=qj1 n0) <;> first | (exfalso; omega) | simp [qcE,qao,sDescribeTopicPartitionsResponseF,qaX,qem,qaJ,Fld.tag,Fld.has,qdc,Fld.kind,Fld.null,Fld.of,Fld.sub,qaL,qbv,qaS,qaA,qaq,qan,uv0,qi1,n0,h0]
def dv0:DV:=.leaf
structure Row_ (size:Nat) (cells:DV → List Value) (ok:DV → Prop) (rel:DV → Tree → Prop) (xs:List Value) (ds:List DV) (ts:List Tree):Prop where
 flat:Flat size xs (ds.map cells)
 each:∀ d ∈ ds,ok d
 len:ds.length = ts.length
 rel_:∀ (i:Nat) (d:DV) (t:Tree),ds[i]? = some d → ts[i]? = some t → rel d t
theorem Row_.nil {size:Nat} {cells:DV → List Value} {ok:DV → Prop} {rel:DV → Tree → Prop}:Row_ size cells ok rel [] [] [] :=
 ⟨Flat.nil size,(fun _ h=>by cases h),rfl,fun i d t h=>by simp at h⟩
theorem Row_.mono {size:Nat} {cells:DV → List Value} {ok ok':DV → Prop} {rel:DV → Tree → Prop} {xs:List Value} {ds:List DV} {ts:List Tree} (h:Row_ size cells ok rel xs ds ts) (hk:∀ d,ok d → ok' d):Row_ size cells ok' rel xs ds ts :=
 ⟨h.flat,fun d hd=>hk d (h.each d hd),h.len,h.rel_⟩
theorem Row_.snoc {size:Nat} {cells:DV → List Value} {ok:DV → Prop} {rel:DV → Tree → Prop} {xs:List Value} {ds:List DV} {ts:List Tree} (h:Row_ size cells ok rel xs ds ts) {d:DV} {t:Tree} (hc:(cells d).length = size) (ho:ok d) (hr:rel d t) :
  Row_ size cells ok rel (xs ++ cells d) (ds ++ [d]) (ts ++ [t]):=by
 refine ⟨?_,fun d' hd=>?_,by simp [h.len],fun i d' t' h1 h2=>?_⟩
 ·rw [List.map_append,List.map_cons,List.map_nil]
  exact h.flat.snoc hc
 ·rcases List.mem_append.1 hd with hd | hd
  ·exact h.each d' hd
  rw [List.mem_singleton.1 hd]; exact ho
 have hl:=h.len
 rcases qbj h1 with h1 | ⟨h1,rfl⟩
 ·rcases qbj h2 with h2 | ⟨h2,_⟩
  ·exact h.rel_ i d' t' h1 h2
  have:=(List.getElem?_eq_some_iff.1 h1).1; omega
 rcases qbj h2 with h2 | ⟨_,rfl⟩
 ·have:=(List.getElem?_eq_some_iff.1 h2).1; omega
 exact hr
theorem Row_.slots {w:World} {e size c n:Nat} {A:Option Addr} {cells:DV → List Value} {ok:DV → Prop} {rel:DV → Tree → Prop} {xs:List Value} {ds:List DV} {ts:List Tree} (h:Row_ size cells ok rel xs ds ts) (ho:w.ownsRow 0 e size (.slice A n c) n xs) (hn:n = ts.length) (h1:∀ d,∀ u ∈ cells d,u.oneCell' = true) (hsm:ts.length ≤ 1099511627776) {F:Nat → Nat → Prop} (hF:∀ g,A.map (·.block) = some g → ∀ o,F g o) :
  Slots w F size A c n (fun i=>cells (ds.getD i dv0)) ∧ (∀ i,i < n → ok (ds.getD i dv0)) ∧ ∀ i,i < n → rel (ds.getD i dv0) (ts.getD i .zero):=by
 have hl:=h.len
 have hnd:n = ds.length:=by omega
 subst hnd
 have hcl:(ds.map cells).length = ds.length:=List.length_map ..
 have hs:=h.flat.slots (A:=A) (c:=c) (F:=F) (by rw [hcl]; exact ho) (fun u hu=>by
  rw [h.flat.eq] at hu
  obtain ⟨cs,hcs,hu⟩:=List.mem_flatten.1 hu
  obtain ⟨d,_,rfl⟩:=List.mem_map.1 hcs
  exact h1 d u hu) (by rw [hcl]; omega) hF
 rw [hcl] at hs
 have hg:∀ i,i < ds.length → (ds.map cells).getD i [] = cells (ds.getD i dv0):=fun i hi=>by
  rw [List.getD_eq_getElem?_getD,List.getElem?_map,List.getD_eq_getElem?_getD,List.getElem?_eq_getElem hi]; rfl
 refine ⟨⟨hs.le,hs.small,hs.none_,fun ad hA h0=>?_⟩,fun i hi=>?_,fun i hi=>?_⟩
 ·obtain ⟨b,o,h2,h3⟩:=hs.some_ ad hA h0
  exact ⟨b,o,h2,fun i hi=>by have:=h3 i hi; rw [hg i hi] at this; exact this⟩
 ·rw [List.getD_eq_getElem?_getD,List.getElem?_eq_getElem hi]
  exact h.each _ (List.getElem_mem hi)
 have hi':i < ts.length:=by omega
 refine h.rel_ i _ _ ?_ ?_
 ·rw [List.getD_eq_getElem?_getD,List.getElem?_eq_getElem hi]; rfl
 rw [List.getD_eq_getElem?_getD,List.getElem?_eq_getElem hi']; rfl
def qf9 (ok:World → (Nat → Nat → Prop) → DV → Prop):Prop:=∀ {w w':World} {F F' M:Nat → Nat → Prop} (d:DV),Step w w' M → (∀ b o,F b o → b < w.heap.size → ¬ M b o) → (∀ b o,F b o → b < w.heap.size → F' b o) → ok w F d → ok w' F' d
def qdG (_:World) (_:Nat → Nat → Prop) (_:DV):Prop:=True
theorem qd2:qf9 qdG:=fun _ _ _ _ _=>trivial
structure RowL (w:World) (F:Nat → Nat → Prop) (size:Nat) (cells:DV → List Value) (ok:World → (Nat → Nat → Prop) → DV → Prop) (rel:DV → Tree → Prop) (xs:List Value) (ds:List DV) (ts:List Tree):Prop where
 mv:qf9 ok
 row:Row_ size cells (ok w F) rel xs ds ts
structure LstR (w:World) (F:Nat → Nat → Prop) (size:Nat) (cells:DV → List Value) (ok:World → (Nat → Nat → Prop) → DV → Prop) (rel:DV → Tree → Prop) (A:Option Addr) (c:Nat) (f:Nat → DV) (ts:List Tree):Prop where
 mv:qf9 ok
 slots:Slots w F size A c ts.length (fun i=>cells (f i))
 each:∀ i,i < ts.length → ok w F (f i)
 rel_:∀ i,i < ts.length → rel (f i) (ts.getD i .zero)
section
variable {w w' w0:World} {F F' M:Nat → Nat → Prop} {size:Nat} {cells:DV → List Value} {ok:World → (Nat → Nat → Prop) → DV → Prop} {rel:DV → Tree → Prop} {xs:List Value} {ds:List DV} {ts:List Tree} {A:Option Addr} {c:Nat} {f:Nat → DV} {tb:Tb} {rs rs':List Rw}
theorem RowL.move (h:RowL w F size cells ok rel xs ds ts) (hs:Step w w' M) (hM:∀ b o,F b o → b < w.heap.size → ¬ M b o) (hF:∀ b o,F b o → b < w.heap.size → F' b o):RowL w' F' size cells ok rel xs ds ts :=
 ⟨h.mv,h.row.mono fun d hd=>h.mv d hs hM hF hd⟩
theorem RowL.nil (mv:qf9 ok):RowL w F size cells ok rel [] [] []:=⟨mv,Row_.nil⟩
theorem RowL.snoc {l:List Tree} {k:Nat} {t:Tree} {d:DV} (h:RowL w F size cells ok rel xs ds (l.take k)) (hk:l[k]? = some t) (hc:(cells d).length = size) (ho:ok w F d) (hr:rel d t):RowL w F size cells ok rel (xs ++ cells d) (ds ++ [d]) (l.take (k + 1)):=by
 rw [qbR hk]
 exact ⟨h.mv,h.row.snoc hc ho hr⟩
theorem LstR.move (h:LstR w F size cells ok rel A c f ts) (hs:Step w w' M) (hM:∀ b o,F b o → b < w.heap.size → ¬ M b o) (hF:∀ b o,F b o → b < w.heap.size → F' b o):LstR w' F' size cells ok rel A c f ts :=
 ⟨h.mv,h.slots.move hs hM hF,fun i hi=>h.mv _ hs hM hF (h.each i hi),h.rel_⟩
theorem LstR.nil (mv:qf9 ok):LstR w F size cells ok rel none 0 (fun _=>dv0) [] :=
 ⟨mv,Slots.nil _ _ _ _,fun i hi=>by simp at hi,fun i hi=>by simp at hi⟩
theorem LstR.of {e n k:Nat} {G:Nat → Nat → Prop} (hW:WOk w0 Nil w tb rs) (hk:rs[k]? = some ⟨A,c,e,size,n,xs⟩) (h:RowL w (Imm G w0 w tb rs) size cells ok rel xs ds (ts.take n)) (hn:n = ts.length) (h1:∀ d,∀ u ∈ cells d,u.oneCell' = true) (hsm:ts.length ≤ 1099511627776) (hr:rs.take k = rs':=by rfl) :
  LstR w (Imm G w0 w tb rs') size cells ok rel A c (fun i=>ds.getD i dv0) ts:=by
 subst hr
 rw [hn,List.take_length] at h
 have hI:∀ b o,Imm G w0 w tb rs b o → b < w.heap.size → Imm G w0 w tb (rs.take k) b o:=fun b o hi hb=>by
  refine ⟨hi.1,hi.2.1,fun ha=>hi.2.2 ?_⟩
  rcases ha with ha | ⟨i,r,h2,h3⟩
  ·exact .inl ha
  rw [List.getElem?_take] at h2
  split at h2
  ·exact .inr ⟨i,r,h2,h3⟩
  cases h2
 have h':=h.move (Step.refl w Nil) nilM hI
 obtain ⟨g1,g2,g3⟩:=h'.row.slots (hW.own k _ hk) hn h1 hsm (F:=Imm G w0 w tb (rs.take k)) (fun g hg o=>by
  have hb:=qbD (hW.own k _ hk) (r:=⟨A,c,e,size,n,xs⟩) hg
  refine ⟨?_,hb,fun ha=>?_⟩
  ·rcases hW.ownM k _ hk g hg with h2 | h2
   ·exact .inr h2
   exact (h2 0).elim
  rcases ha with ⟨i,ob,h2,_,h3,_⟩ | ⟨i,r,h2,h3⟩
  ·exact hW.rtb k _ hk g hg i ob h2 h3
  rw [List.getElem?_take] at h2
  split at h2
  ·rename_i hlt
   exact hW.rr k i _ r (by omega) hk h2 g hg h3
  cases h2)
 rw [hn] at g1 g2 g3
 exact ⟨h'.mv,g1,g2,g3⟩
end
theorem qc5 {t:Tree} (h:t.null = false):lst t = t.L:=by unfold lst; rw [h]; rfl
theorem qfk {t:Tree} (h:t.null = true):lst t = []:=by unfold lst; rw [h]; rfl
theorem qeg {P:Program} {c:Code} {Mid N:Act → World → Prop} {Q:Exit → Act → World → Prop} {a:Act} {w:World} (h1:c.wp P (Exit.then Mid Q) a w) (h2:∀ a' w',Mid a' w' → N a' w'):c.wp P (Exit.then N Q) a w :=
 wp_mono h1 fun e a' w' h=>by
  cases e <;> first | exact h2 a' w' h | exact h
def dvN (n:Int):DV:=.mk n false ByteArray.empty [] none 0 0 none [] (fun _=>.leaf)
def dvB (b:Bool):DV:=.mk 0 b ByteArray.empty [] none 0 0 none [] (fun _=>.leaf)
def dvS (s:ByteArray):DV:=.mk 0 false s [] none 0 0 none [] (fun _=>.leaf)
def dvT (A:Option Addr) (s:ByteArray):DV:=.mk 0 false s [] A 0 0 none [] (fun _=>.leaf)
def dvO (A:Option Addr) (o:Bs) (c:Nat):DV:=.mk 0 false ByteArray.empty o A 0 c none [] (fun _=>.leaf)
def dvL (A:Option Addr) (l c:Nat) (f:Nat → DV):DV:=.mk 0 false ByteArray.empty [] A l c none [] f
def dvP (m:Option Nat) (u:List (Int × Bs)) (fs:List DV):DV:=.mk 0 false ByteArray.empty [] none 0 0 m u (fun i=>fs.getD i .leaf)
theorem TL.tab {w wL w1:World} {F:Nat → Nat → Prop} {p off:Nat} {cs0:List Value} {m:Option Nat} {u:List (Int × Bs)} {tb:Tb} {rs:List Rw} (h:TL w wL w1 F p off cs0 m u) (hW:WOk w Nil wL tb rs) (i:Nat) (tb':Tb) (hi:tb[i]? = some ⟨p,0,cs0,true⟩) (ht:tb.set i ⟨p,0,cs0.set off (.map m),true⟩ = tb':=by rfl) (ho:Nat.blt off cs0.length = true:=by kernel_rfl) :
  WOk w Nil w1 tb' rs ∧ Fr wL tb rs w1 tb' rs:=by
 subst ht
 have ho':off < cs0.length:=by simpa [Nat.blt_eq] using ho
 have hil:i < tb.length:=(List.getElem?_eq_some_iff.1 hi).1
 have key:∀ (j:Nat) (o:Ob),(tb.set i ⟨p,0,cs0.set off (.map m),true⟩)[j]? = some o → (j = i ∧ o = ⟨p,0,cs0.set off (.map m),true⟩) ∨ (j ≠ i ∧ tb[j]? = some o):=fun j o hj=>by
  rcases qdx hj with ⟨h1,h2,_⟩ | ⟨h1,h2⟩
  ·exact .inl ⟨h1,h2⟩
  exact .inr ⟨h1,h2⟩
 have far:∀ (j:Nat) (o:Ob),j ≠ i → tb[j]? = some o → ∀ q,q < o.cells.length → ¬ (o.blk = p ∧ o.off + q = off):=fun j o hne hj q hq e=>by
  rcases hW.apart j i o _ hne hj hi (.inr rfl) with h1 | h1 | h1
  ·exact h1 e.1
  ·simp only [Nat.le_zero] at h1; omega
  simp only [Nat.zero_add] at h1; omega
 have act:∀ b o,Act_ (tb.set i ⟨p,0,cs0.set off (.map m),true⟩) rs b o → Act_ tb rs b o:=fun b o ha=>by
  rcases ha with ⟨j,ob,hj,h1,h2,h3,h4⟩ | ha
  ·rcases key j ob hj with ⟨rfl,rfl⟩ | ⟨_,hj⟩
   ·exact .inl ⟨j,_,hi,rfl,h2,h3,by simpa using h4⟩
   exact .inl ⟨j,ob,hj,h1,h2,h3,h4⟩
  exact .inr ha
 refine ⟨⟨h.step,?_,?_,?_,?_,?_,hW.ownM,?_,hW.rr⟩,⟨fun b o _ hn ha=>hn (act b o ha),h.keep.mono fun b o _ e=>.inl ⟨i,_,hi,rfl,e.1.symm,Nat.zero_le _,by simpa [e.2] using ho'⟩⟩⟩
 ·intro j o hj q v hv
  rcases key j o hj with ⟨rfl,rfl⟩ | ⟨hne,hj⟩
  ·dsimp only
   rw [Nat.zero_add]
   exact h.str.at_ q v hv
  exact h.keep.cell (far j o hne hj q (List.getElem?_eq_some_iff.1 hv).1) (hW.cells j o hj q v hv)
 ·intro j o hj
  rcases key j o hj with ⟨rfl,rfl⟩ | ⟨_,hj⟩
  ·have h1:=hW.live j _ hi
   exact Nat.lt_of_lt_of_le h1 h.keep.size
  exact Nat.lt_of_lt_of_le (hW.live j o hj) h.keep.size
 ·intro j o hj hr q hq
  rcases key j o hj with ⟨rfl,rfl⟩ | ⟨hne,hj⟩
  ·dsimp only at hq ⊢
   refine ⟨(hW.rw_ j _ hi rfl q (by simpa using hq)).1,?_⟩
   rw [Nat.zero_add]
   exact h.str.frz q hq
  obtain ⟨h1,h2⟩:=hW.rw_ j o hj hr q hq
  exact ⟨h1,h.keep.frozen (far j o hne hj q hq) (hW.cells j o hj q _ (List.getElem?_eq_getElem hq)) h2⟩
 ·intro j k o o' hjk hj hk hw
  rcases key j o hj with ⟨rfl,rfl⟩ | ⟨hne,hj'⟩
  ·rcases key k o' hk with ⟨rfl,rfl⟩ | ⟨hne',hk'⟩
   ·exact absurd rfl hjk
   have:=hW.apart j k _ o' hjk hi hk' (.inl rfl)
   simpa using this
  rcases key k o' hk with ⟨rfl,rfl⟩ | ⟨hne',hk'⟩
  ·have:=hW.apart j k o _ hjk hj' hi (.inr rfl)
   simpa using this
  exact hW.apart j k o o' hjk hj' hk' hw
 ·intro j r hj
  refine qdJ (hW.own j r hj) fun g hg=>(h.keep.keeps g (qbD (hW.own j r hj) hg)).1 fun o e=>?_
  exact hW.rtb j r hj g hg i _ hi e.1.symm
 intro j r hj g hg k o hk
 rcases key k o hk with ⟨rfl,rfl⟩ | ⟨_,hk⟩
 ·have h1:=hW.rtb j r hj g hg k _ hi
  exact h1
 exact hW.rtb j r hj g hg k o hk
theorem TL.mapImm {w wL w1:World} {F:Nat → Nat → Prop} {p off:Nat} {cs0:List Value} {m:Option Nat} {u:List (Int × Bs)} {tb tb':Tb} {rs:List Rw} (h:TL w wL w1 F p off cs0 m u) (hW:WOk w Nil wL tb rs) (hW':WOk w Nil w1 tb' rs) (hf:Fr wL tb rs w1 tb' rs) (hs:qcV u) (hr:∀ x ∈ u,0 ≤ x.1 ∧ x.1 < 4294967296) (hl:tb'.map (·.blk) = tb.map (·.blk):=by rfl):MapR w1 (Imm F w w1 tb' rs) m u:=by
 have blk:∀ b o,Act_ tb' rs b o → w.heap.size ≤ b ∧ b < wL.heap.size:=fun b o ha=>by
  rcases ha with ⟨j,ob,hj,h1,rfl,h3,h4⟩ | ⟨j,r,hj,hb⟩
  ·have hm:(tb'.map (·.blk))[j]? = some ob.blk:=by rw [List.getElem?_map,hj]; rfl
   rw [hl,List.getElem?_map] at hm
   obtain ⟨ob',hk,e⟩:=Option.map_eq_some_iff.1 hm
   refine ⟨?_,by rw [← e]; exact hW.live j ob' hk⟩
   rcases (hW'.rw_ j ob hj h1 (o - ob.off) (by omega)).1 with h5 | h5
   ·exact h5
   exact h5.elim
  refine ⟨?_,qbD (hW.own j r hj) hb⟩
  rcases hW.ownM j r hj b hb with h5 | h5
  ·exact h5
  exact (h5 0).elim
 have hb:=h.big
 refine h.own.map (fun b o h1=>⟨.inl h1.1,Nat.lt_of_lt_of_le h1.2 h.step.size,fun ha=>?_⟩) (fun r o e=>?_) hs hr
 ·have:=blk b o ha; have:=h1.2; omega
 have h1:=h.new r e
 obtain ⟨es,clk,h2,_⟩:=h.own.some_ r e
 refine ⟨.inr (Nat.le_trans hb h1),(Array.getElem?_eq_some_iff.1 h2).1,fun ha=>?_⟩
 have:=blk r o ha; omega
theorem qdq {w0 w:World} {M:Nat → Nat → Prop} {tb:Tb} {rs:List Rw} {k e size n c:Nat} {A:Option Addr} {xs:List Value} (hW:WOk w0 M w tb rs) (hk:rs[k]? = some ⟨A,c,e,size,n,xs⟩) (hn:0 < n):A.isNone = false:=by
 cases A with
 | some _=>rfl
 | none =>
  rcases (hW.own k _ hk).2 with ⟨_,h⟩ | ⟨_,_,_,hv,_⟩
  ·have h':n = 0:=h
   omega
  cases hv
theorem EnvOk.retable {n:Nat} {env:Env} {a:Act} (tb:Tb) (h:EnvOk n [] env a):EnvOk n tb env a:=h.table fun i hi=>absurd hi (Nat.not_lt_zero i)
theorem qjK (A:Option Addr) (c:Nat) (s:Bs) (w:World) (F:Nat → Nat → Prop) (hs:Octs w F A c s):Calls Tryz.prog 56 #[.slice A s.length c] w (qdu w (.agg ((List.range 16).map fun i=>qac (s.getD i 0)).toArray)):=by
 refine enter (n:=7) (vs:=[.slice A s.length c]) Tryz.func56 rfl Tryz.ntmps56 kz fun a hE=>?_
 have hW:=WOk.start w Nil
 refine qad [0] kz ?_
 refine qah (qg3 hE (d:=2) (cs:=((List.range 16).map fun _=>qac 0)) kz fun t' a1 hE1=>qae (qaa ?_))
 have hW1:=hW.alloc ((List.range 16).map fun _=>qac 0) t'
 have hE2:=(hE1.grow ⟨w.heap.size,0,((List.range 16).map fun _=>qac 0),true⟩).recast 2 (.v (.pointer (some ⟨w.heap.size,0,none⟩))) (.p 0 0) rfl rfl (by simp [SV.ok])
 refine qad [0,1,2] kz ?_
 refine qaT [0,1] [2] [2,3,4] hW1 hE2 (env':=[(2,.p 0 0),(3,.v (.slice (some ⟨w.heap.size,0,none⟩) 16 16)),(4,.v (.slice A s.length c))]) kz rfl fun a2 hE3=>?_
 refine qah (qg2 hE3 (t:=22) (u:=22) (e:=5) (bytes:=1) (b:=w.heap.size) (d:=5) kz kz (qdg _ _) rfl (hs.move (Step.alloc w _) nilM qco) fun a3 w2 hst hat hfz hE4=>qae (qaa ?_))
 obtain ⟨v,hE4⟩:=hE4
 have hst2:Step w w2 Nil:=(Step.alloc w _).trans hst fun b' o hl h=>by omega
 have hW2:=hat.wok hst2 hfz (Nat.le_refl _) kz
 have hE5:EnvOk 7 [⟨w.heap.size,0,((List.range 16).map fun i=>qac (s.getD i 0)),true⟩] [(2,.p 0 0)] a3:=(hE4.pick (ks:=[2]) (env':=[(2,.p 0 0)]) kz).places ⟨rfl,rfl,trivial⟩
 refine qad [0,1] kz ?_
 refine qaT [0] [1] [2,6] hW2 hE5 (env':=[(2,.p 0 0),(6,.v (.agg ((List.range 16).map fun i=>qac (s.getD i 0)).toArray))]) kz rfl fun a4 hE6=>?_
 refine qah (qaj hW2 hE6 (oi:=0) (cs:=((List.range 16).map fun i=>qac (s.getD i 0))) kz fun w3 hF3 hW3 hE7=>qae (qaa (wp_ret ?_)))
 exact qaV hE7 hW3.cells (v:=.agg ((List.range 16).map fun i=>qac (s.getD i 0)).toArray) kz ⟨rfl,hW3.step⟩
theorem qkp (ct:List Value) (t:Tree) (w:World) (F:Nat → Nat → Prop) (ht:TreeR w F ct t):Calls Tryz.prog 55 #[.agg ct.toArray] w (fun e w'=>∃ A,e = .returned (.pointer A) ∧ (∀ ad,A = some ad → ∃ b o,ad = ⟨b,o,none⟩ ∧ AtF w' (Fp F w) b o [.string (bs (qdf t))]) ∧ A.isNone = t.null ∧ Step w w' Nil):=by
 obtain ⟨n,s,b,l,u,A1,c1,A2,c2,A3,c3,xs,rfl,rfl,h1,h2,h3,h4⟩:=ht.open_
 have hsm:=h1.small
 refine enter (n:=9) (vs:=[.agg #[.int .i64 n,.slice A1 s.length c1,.bool b,.slice A2 l.length c2,.slice A3 u.length c3]]) Tryz.func55 rfl Tryz.ntmps55 kz fun a hE=>?_
 have hW:=WOk.start w Nil
 refine qad [0,1] kz ?_
 refine qah (qa9 hW hE (d:=1) (cs:=[.int .i64 n,.slice A1 s.length c1,.bool b,.slice A2 l.length c2,.slice A3 u.length c3]) kz fun b1 a1 w1 hb hb0 hF1 hW1 hE1=>?_)
 refine qaT [1] [] [1] hW1 hE1 (env':=[(1,.p 0 0)]) kz rfl fun a2 hE2=>qae (qaa ?_)
 refine wp_seq (wp_seq ?_)
 refine qap [0,1] kz (qaT [0,1] [] [1,5] hW1 hE2 (env':=[(1,.p 0 0),(5,.v (.bool b))]) kz rfl fun a3 hE3=>qae (qaa ?_))
 refine qau hE3 (b:=b) kz (fun hb=>?_) (fun hb=>?_)
 ·subst hb
  refine qad [0] kz (qaT [0] [] [2] hW1 hE3 (env':=[(2,.v (.pointer none))]) kz rfl fun a4 hE4=>qae (qaa (wp_ret (qaB ?_))))
  exact qaV hE4 hW1.cells (v:=.pointer none) kz ⟨none,rfl,(fun ad h=>by cases h),rfl,hW1.step⟩
 subst hb
 refine wp_skip (qaa ?_)
 refine qad [0,1,2,3,4] kz ?_
 refine qaT [0,1] [2,3,4] [7] hW1 hE3 (env':=[(7,.v (.slice A1 s.length c1))]) kz rfl fun a4 hE4=>?_
 refine qah (qgD hE4 (src:=22) (dst:=9) (e:=5) (d:=8) kz kz kz kz (h1.move hW1.step nilM qco) fun a5 hE5=>?_)
 refine qah (qaw hW1 hE5 (d:=3) (cs:=[.string ByteArray.empty]) kz fun b2 a6 w2 hb2 aa hF2 hW2 hE6=>?_)
 refine qah (qaj hW2 hE6 (oi:=1) (cs:=[.string (bs s)]) kz fun w3 hF3 hW3 hE7=>qae (qaa ?_))
 refine qad [0] kz (qaT [0] [] [2] hW3 hE7 (env':=[(2,.p 1 0)]) kz rfl fun a7 hE8=>qae (qaa (wp_ret ?_)))
 refine qaV hE8 hW3.cells (v:=.pointer (some ⟨b2,0,none⟩)) kz ⟨some ⟨b2,0,none⟩,rfl,fun ad h=>?_,rfl,hW3.step⟩
 obtain rfl:=Option.some.inj h
 exact ⟨b2,0,rfl,fun j v hj=>⟨.inr aa,hW3.cells 1 _ rfl j v hj⟩⟩
theorem qkP (k:Int) (A:Option Addr) (m c:Nat) (w:World):Calls Tryz.prog 26 #[.agg #[.int .u32 k,.slice A m c]] w (qiN w):=by
 refine enter (n:=7) Tryz.func26 rfl Tryz.ntmps26 kz fun a hE=>?_
 have hW:=WOk.start w Nil
 refine qad [0,1] kz ?_
 refine qah (qa9 hW hE (d:=1) (cs:=[.int .u32 k,.slice A m c]) kz fun b1 a2 w3 hb4 hz5 hF6 hW7 hE8=>?_)
 refine qak [1] [] [(1,.p 0 0)] hW7 hE8 fun a9 ac=>?_
 refine qae (qaa ?_)
 refine wp_seq ?_
 refine qaz [(6,.v (.bool (decide (((m:Nat):Int) > 2147483647))))] hW7 ac fun ai aa=>?_
 refine qau aa (b:=decide (((m:Nat):Int) > 2147483647)) kz (fun ab=>?_) (fun ab=>?_)
 ·
  have ag:=of_decide_eq_true ab
  refine qaz [(2,.v (.bool false))] hW7 aa fun aj ae=>?_
  refine wp_ret ?_
  refine qaB ?_
  refine qaV ae hW7.cells (v:=.bool false) kz ?_
  exact ⟨_,rfl,hW7.step⟩
 have ah:=of_decide_eq_false ab
 refine wp_skip ?_
 refine qaa ?_
 refine qaz [(2,.v (.bool true))] hW7 aa fun ak af=>?_
 refine wp_ret ?_
 refine qaV af hW7.cells (v:=.bool true) kz ?_
 exact ⟨_,rfl,hW7.step⟩
theorem qkQ (A:Option Addr) (c:Nat) (u:List (Int × Bs)) (w:World) (F:Nat → Nat → Prop) (hu:TagsR w F A c u):Calls Tryz.prog 13 #[.slice A u.length c] w (qiN w):=by
 obtain ⟨xu,h1,h2⟩:=hu.ex
 have hsm:=h1.small
 refine enter (n:=18) Tryz.func13 rfl Tryz.ntmps13 kz fun a hE=>?_
 have hW:=WOk.start w Nil
 refine qaz [(0,.v (.slice A u.length c))] hW hE fun a1 hE2=>?_
 refine wp_seq ?_
 refine qaz [(0,.v (.slice A u.length c)),(7,.v (.bool (decide (((u.length:Nat):Int) > 2147483647))))] hW hE2 fun a3 hE4=>?_
 refine qau hE4 (b:=decide (((u.length:Nat):Int) > 2147483647)) kz (fun hc5=>?_) (fun hc5=>?_)
 ·
  have hf6:=of_decide_eq_true hc5
  refine qaz [(2,.v (.bool false))] hW hE4 fun a7 hE8=>?_
  refine wp_ret ?_
  refine qaB ?_
  refine qaV hE8 hW.cells (v:=.bool false) kz ?_
  exact ⟨_,rfl,hW.step⟩
 have hf9:=of_decide_eq_false hc5
 refine wp_skip ?_
 refine qaa ?_
 refine wp_seq ?_
 refine qaz [(8,.v (.slice A u.length c)),(9,.v (.int .i64 ((u.length:Nat):Int))),(10,.v (.int .i64 0))] hW hE4 fun bd ar=>?_
 refine wp_block ?_
 refine wp_loop_ghost (fun n_ a_ w_=>∃ (k:Nat),n_ = u.length - k ∧ k ≤ u.length ∧ LInv hW 18 [] [] [(8,.v (.slice A u.length c)),(9,.v (.int .i64 ((u.length:Nat):Int))),(10,.v (.int .i64 ((k:Nat):Int)))] a_ w_) (u.length) ⟨0,by omega,by omega,ar.pk,hW,Fr.refl _ _ _⟩ ?_
 rintro bf bg bh ⟨k,aR,aS,au,aa,av⟩
 refine qaz [(8,.v (.slice A u.length c)),(9,.v (.int .i64 ((u.length:Nat):Int))),(10,.v (.int .i64 ((k:Nat):Int))),(11,.v (.bool (decide (((k:Nat):Int) < ((u.length:Nat):Int)))))] aa au fun bi ae=>?_
 refine wp_seq ?_
 refine qau ae (b:=decide (((k:Nat):Int) < ((u.length:Nat):Int))) kz (fun af=>?_) (fun af=>?_)
 ·
  have aT:=of_decide_eq_true af
  refine wp_skip ?_
  refine qaa ?_
  refine wp_seq ?_
  refine wp_block ?_
  refine qad [0,1,2,3] kz ?_
  obtain ⟨aU,aV,aw,aW,ac⟩:=Slots.get h1 (i:=k) (by omega)
  obtain ⟨⟨ai,aj⟩,ax⟩:∃ x,u[k]? = some x:=⟨_,List.getElem?_eq_getElem (by omega)⟩
  obtain ⟨⟨ak,al,am,aX⟩,bj,bk⟩:=h2 k ai aj ax
  rw [am] at ac
  refine qah (qaM ae (t:=24) (A:=A) (m:=u.length) (q:=((k:Nat):Int)) (d:=12) kz (e:=64) (size:=2) (bytes:=32) kz aw rfl (by omega) fun bn ay=>?_)
  refine qah (qa0 ay (t:=64) (b:=aU) (o:=aV + k * 2) (d:=13) kz (cs:=[.int .u32 ai,.slice ak aj.length al]) (v:=.agg #[.int .u32 ai,.slice ak aj.length al]) kz (AtF.move ac aa.step nilM qco).at_ fun bp aA=>?_)
  refine qah (qaw aa aA (d:=4) (cs:=[.int .u32 0,.slice none 0 0]) kz fun bq br bt aY aZ aB aC aD=>?_)
  refine qah (qaj aC aD (oi:=0) (cs:=[.int .u32 ai,.slice ak aj.length al]) kz fun bu aE ag aF=>?_)
  refine qae (qaa ?_)
  refine qad [0,1,2] kz ?_
  refine qak [0] [1,2] [(8,.v (.slice A u.length c)),(9,.v (.int .i64 ((u.length:Nat):Int))),(10,.v (.int .i64 ((k:Nat):Int))),(14,.v (.agg #[.int .u32 ai,.slice ak aj.length al]))] ag aF fun bv aG=>?_
  refine qah (qai aG (f:=26) (vs:=[.agg #[.int .u32 ai,.slice ak aj.length al]]) (d:=15) kz Tryz.call26 (qkP _ _ _ _ _) ?_)
  rintro e_ bw ⟨aQ,rfl,ao⟩
  refine ⟨_,rfl,fun bz aH=>?_⟩
  have ab:=ag.next_nil ao
  have aI:=ag.frN ao
  refine qak [2] [] [(8,.v (.slice A u.length c)),(9,.v (.int .i64 ((u.length:Nat):Int))),(10,.v (.int .i64 ((k:Nat):Int))),(16,.v (.bool (!aQ)))] ab aH fun bA ah=>?_
  refine qae (qaa ?_)
  refine qau ah (b:=!aQ) kz (fun aJ=>?_) (fun aJ=>?_)
  ·
   refine qaz [(2,.v (.bool false))] ab ah fun bB aK=>?_
   refine wp_ret ?_
   refine qaR ?_
   refine qaB ?_
   refine qaB ?_
   refine qaR ?_
   refine qaB ?_
   refine qaV aK ab.cells (v:=.bool false) kz ?_
   exact ⟨_,rfl,ab.step⟩
  refine wp_skip ?_
  refine qas ?_
  refine qaa ?_
  refine qap [0,1] kz ?_
  refine qak [0,1] [] [(8,.v (.slice A u.length c)),(9,.v (.int .i64 ((u.length:Nat):Int))),(10,.v (.int .i64 (IntKind.i64.wrap (((k:Nat):Int) + 1))))] ab ah fun bC aL=>?_
  refine qae (qaa ?_)
  obtain ⟨ap,aM,aN⟩:=ab.cutB aL 0 [] [(8,.v (.slice A u.length c)),(9,.v (.int .i64 ((u.length:Nat):Int))),(10,.v (.int .i64 (IntKind.i64.wrap (((k:Nat):Int) + 1))))]
  have aO:IntKind.i64.wrap (((k:Nat):Int) + 1) = ((k + 1:Nat):Int):=qaN (by omega)
  rw [aO] at ap
  exact ⟨u.length - (k + 1),by omega,k + 1,rfl,by omega,ap.pk,aM,((((av.trans aB).trans aE).trans aI).trans aN)⟩
 have ba:=of_decide_eq_false af
 refine wp_exit ?_
 refine qar ?_
 refine qar ?_
 refine qaE ?_
 refine qaa ?_
 refine qaz [(2,.v (.bool true))] aa ae fun bD aP=>?_
 refine wp_ret ?_
 refine qaV aP aa.cells (v:=.bool true) kz ?_
 exact ⟨_,rfl,aa.step⟩
theorem qkR (ct:List Value) (t:Tree) (w:World) (F:Nat → Nat → Prop) (ht:TreeR w F ct t):Calls Tryz.prog 4 #[.agg ct.toArray] w (qiN w):=by
 obtain ⟨n1,s2,b3,l4,u5,A6,c7,A8,c9,aj,ak,aC,rfl,rfl,aD,aE,aO,aF⟩:=ht.open_
 have ay:=aD.small
 have aA:=aE.small
 refine enter (n:=15) Tryz.func4 rfl Tryz.ntmps4 kz fun a hE=>?_
 have hW:=WOk.start w Nil
 refine qad [0,1] kz ?_
 refine qah (qa9 hW hE (d:=1) (cs:=[.int .i64 n1,.slice A6 s2.length c7,.bool b3,.slice A8 l4.length c9,.slice aj u5.length ak]) kz fun aP aQ aR aG aH aI aa al=>?_)
 refine qak [1] [] [(1,.p 0 0)] aa al fun aS am=>?_
 refine qae (qaa ?_)
 refine wp_seq ?_
 refine qaz [(1,.p 0 0),(6,.v (.bool (decide (((s2.length:Nat):Int) > 2147483647))))] aa am fun aT ac=>?_
 refine qau ac (b:=decide (((s2.length:Nat):Int) > 2147483647)) kz (fun ae=>?_) (fun ae=>?_)
 ·
  have aJ:=of_decide_eq_true ae
  refine qaz [(2,.v (.bool false))] aa ac fun aU ao=>?_
  refine wp_ret ?_
  refine qaB ?_
  refine qaV ao aa.cells (v:=.bool false) kz ?_
  exact ⟨_,rfl,aa.step⟩
 have aK:=of_decide_eq_false ae
 refine wp_skip ?_
 refine qaa ?_
 refine wp_seq ?_
 refine qaz [(1,.p 0 0),(10,.v (.bool (decide (((l4.length:Nat):Int) > 2147483647))))] aa ac fun aV af=>?_
 refine qau af (b:=decide (((l4.length:Nat):Int) > 2147483647)) kz (fun ag=>?_) (fun ag=>?_)
 ·
  have aL:=of_decide_eq_true ag
  refine qaz [(2,.v (.bool false))] aa af fun aW ap=>?_
  refine wp_ret ?_
  refine qaB ?_
  refine qaV ap aa.cells (v:=.bool false) kz ?_
  exact ⟨_,rfl,aa.step⟩
 have aM:=of_decide_eq_false ag
 refine wp_skip ?_
 refine qaa ?_
 refine wp_seq ?_
 refine qad [0,1,2,3] kz ?_
 refine qak [0,1] [2,3] [(12,.v (.slice aj u5.length ak))] aa af fun aX ar=>?_
 refine qah (qai ar (f:=13) (vs:=[.slice aj u5.length ak]) (d:=13) kz Tryz.call13 (qkQ _ _ u5 _ _ (aF.move aa.step nilM aa.imm)) ?_)
 rintro e_ aY ⟨aB,rfl,ai⟩
 refine ⟨_,rfl,fun aZ au=>?_⟩
 have ab:=aa.next_nil ai
 have aN:=aa.frN ai
 refine qak [3] [] [(14,.v (.bool (!aB)))] ab au fun ba ah=>?_
 refine qae (qaa ?_)
 refine qau ah (b:=!aB) kz (fun av=>?_) (fun av=>?_)
 ·
  refine qaz [(2,.v (.bool false))] ab ah fun bd aw=>?_
  refine wp_ret ?_
  refine qaB ?_
  refine qaV aw ab.cells (v:=.bool false) kz ?_
  exact ⟨_,rfl,ab.step⟩
 refine wp_skip ?_
 refine qaa ?_
 refine qaz [(2,.v (.bool true))] ab ah fun bf ax=>?_
 refine wp_ret ?_
 refine qaV ax ab.cells (v:=.bool true) kz ?_
 exact ⟨_,rfl,ab.step⟩
theorem qjL (x m:Int) (hx:0 ≤ x) (hx':x < 256) (hm:0 ≤ m) (hm':m < 32768) (w:World):Calls Tryz.prog 7 #[.int .u8 x,.int .i64 m] w (qdu w (.int .i64 (Int.tmod x (m + 1)))):=by
 refine enter (n:=10) Tryz.func7 rfl Tryz.ntmps7 kz fun a hE=>?_
 have hW:=WOk.start w Nil
 refine qaz [(0,.v (.int .u8 x)),(1,.v (.int .i64 m))] hW hE fun a1 hE2=>?_
 refine qad [0,1,2,3,4,5] kz ?_
 refine qak [0,1,2,3] [4,5] [(6,.v (.int .i64 (IntKind.i64.wrap x))),(8,.v (.int .i64 (IntKind.i64.wrap (m + 1))))] hW hE2 fun a3 hE4=>?_
 refine qah (qjn hE4 (k:=.i64) (p:=(IntKind.i64.wrap x)) (q:=(IntKind.i64.wrap (m + 1))) (d:=9) kz (by simp only [IntKind.wrap_i64]; omega) fun a5 hE6=>?_)
 refine qak [5] [] [(4,.v (.int .i64 (Int.tmod (IntKind.i64.wrap x) (IntKind.i64.wrap (m + 1)))))] hW hE6 fun a7 hE8=>?_
 refine qae (qaa ?_)
 refine wp_ret ?_
 refine qaV hE8 hW.cells (v:=.int .i64 (Int.tmod (IntKind.i64.wrap x) (IntKind.i64.wrap (m + 1)))) kz ?_
 exact ⟨by rw [wrap_i64 (by omega) (by omega),wrap_i64 (by omega) (by omega)],hW.step⟩
def qa4 (d:DV):List Value:=[.int .i16 ((d.f 0).n),.int .i32 ((d.f 1).n),.int .i32 ((d.f 2).n),.int .i32 ((d.f 3).n),.slice ((d.f 4).A) ((d.f 4).l) ((d.f 4).c),.slice ((d.f 5).A) ((d.f 5).l) ((d.f 5).c),.slice ((d.f 6).A) ((d.f 6).l) ((d.f 6).c),.slice ((d.f 7).A) ((d.f 7).l) ((d.f 7).c),.slice ((d.f 8).A) ((d.f 8).l) ((d.f 8).c),.map d.m]
theorem qbI:∀ d,∀ u ∈ qa4 d,u.oneCell' = true:=fun d=>qbq kz
theorem qaK:qf9 qav:=by
 intro w w' F F' M d hs hM hF h
 unfold qav at h ⊢
 obtain ⟨g0,g1,g2,g3,⟨g4,g4l,g4e⟩,⟨g5,g5l,g5e⟩,⟨g6,g6l,g6e⟩,⟨g7,g7l,g7e⟩,⟨g8,g8l,g8e⟩,t1,t2,t3,_⟩:=h
 exact ⟨g0,g1,g2,g3,⟨g4.move hs hM hF,g4l,g4e⟩,⟨g5.move hs hM hF,g5l,g5e⟩,⟨g6.move hs hM hF,g6l,g6e⟩,⟨g7.move hs hM hF,g7l,g7e⟩,⟨g8.move hs hM hF,g8l,g8e⟩,t1.move hs hM hF,t2,t3,trivial⟩
def qbi (d:DV):List Value:=[.int .i16 ((d.f 0).n),.pointer ((d.f 1).A),qac ((d.f 2).o.getD 0 0),qac ((d.f 2).o.getD 1 0),qac ((d.f 2).o.getD 2 0),qac ((d.f 2).o.getD 3 0),qac ((d.f 2).o.getD 4 0),qac ((d.f 2).o.getD 5 0),qac ((d.f 2).o.getD 6 0),qac ((d.f 2).o.getD 7 0),qac ((d.f 2).o.getD 8 0),qac ((d.f 2).o.getD 9 0),qac ((d.f 2).o.getD 10 0),qac ((d.f 2).o.getD 11 0),qac ((d.f 2).o.getD 12 0),qac ((d.f 2).o.getD 13 0),qac ((d.f 2).o.getD 14 0),qac ((d.f 2).o.getD 15 0),.bool ((d.f 3).b),.slice ((d.f 4).A) ((d.f 4).l) ((d.f 4).c),.int .i32 ((d.f 5).n),.map d.m]
theorem qcb:∀ d,∀ u ∈ qbi d,u.oneCell' = true:=fun d=>qbq kz
theorem qa6:qf9 qaC:=by
 intro w w' F F' M d hs hM hF h
 unfold qaC at h ⊢
 obtain ⟨g0,⟨g1,g1l⟩,g2,g3,⟨g4,g4l,g4e⟩,g5,t1,t2,t3,_⟩:=h
 exact ⟨g0,⟨fun ad hA=>by
  obtain ⟨b,o,h1,h2⟩:=g1 ad hA
  exact ⟨b,o,h1,h2.move hs hM hF⟩,g1l⟩,g2,g3,⟨g4.move hs hM hF,g4l,fun i hi=>qaK _ hs hM hF (g4e i hi)⟩,g5,t1.move hs hM hF,t2,t3,trivial⟩
theorem qaY:qf9 qax:=by
 intro w w' F F' M d hs hM hF h
 unfold qax at h ⊢
 obtain ⟨g0,g1,t1,t2,t3,_⟩:=h
 exact ⟨g0,g1,t1.move hs hM hF,t2,t3,trivial⟩
def dvPV (A:Option Addr) (D:DV):DV:=.mk D.n D.b D.s D.o A D.l D.c D.m D.u D.f
def qbp (w:World) (F:Nat → Nat → Prop) (D:DV):Prop:=∀ ad,D.A = some ad → (∃ b o,ad = ⟨b,o,none⟩ ∧ AtF w F b o [.string ((D.f 0).s),.int .i32 ((D.f 1).n),.map D.m]) ∧ qax w F D
theorem qba:qf9 qbp:=by
 intro w w' F F' M d hs hM hF h
 exact fun ad hA=>by
  obtain ⟨⟨b,o,h1,h2⟩,h3⟩:=h ad hA
  exact ⟨⟨b,o,h1,h2.move hs hM hF⟩,qaY _ hs hM hF h3⟩
set_option maxHeartbeats 4000000 in
theorem qbK (ct:List Value) (t:Tree) (w:World) (F:Nat → Nat → Prop) (ht:TreeR w F ct t) (hc:qaI t) :
  Calls Tryz.prog 57 #[.agg ct.toArray] w (fun e w'=>∃ D:DV,e = .returned (.agg #[.int .i16 ((D.f 0).n),.int .i32 ((D.f 1).n),.int .i32 ((D.f 2).n),.int .i32 ((D.f 3).n),.slice ((D.f 4).A) ((D.f 4).l) ((D.f 4).c),.slice ((D.f 5).A) ((D.f 5).l) ((D.f 5).c),.slice ((D.f 6).A) ((D.f 6).l) ((D.f 6).c),.slice ((D.f 7).A) ((D.f 7).l) ((D.f 7).c),.slice ((D.f 8).A) ((D.f 8).l) ((D.f 8).c),.map D.m]) ∧ qav w' (Fp F w) D ∧ qaD D t ∧ Step w w' Nil):=by
 obtain ⟨n1,s2,b3,l4,u5,A6,c7,A8,c9,ae,af,rJ,rfl,rfl,rK,rL,xY,oU⟩:=ht.open_
 have oV:=rK.small
 have oW:=rL.small
 unfold qaI at hc
 obtain ⟨cj0,cj1,cj2,cj3,cj4,cj5,cj6,cj7,cj8,cU,_⟩:=hc
 have hsort:=cU.1
 replace hsort:qcV u5:=hsort
 have hul:u5.length ≤ 1000000:=cU.2.1
 refine enter (n:=186) Tryz.func57 rfl Tryz.ntmps57 kz fun a hE=>?_
 have hW:=WOk.start w Nil
 refine qad [0,1] kz ?_
 refine qah (qa9 hW hE (d:=1) (cs:=[.int .i64 n1,.slice A6 s2.length c7,.bool b3,.slice A8 l4.length c9,.slice ae u5.length af]) kz fun aK xZ x0 rM rN rO mx my=>?_)
 refine qah (qaw mx my (d:=2) (cs:=[.int .i16 0,.int .i32 0,.int .i32 0,.int .i32 0,.slice none 0 0,.slice none 0 0,.slice none 0 0,.slice none 0 0,.slice none 0 0,.map none]) kz fun aD x7 x8 rP rQ rR mz mA=>?_)
 refine qae (qaa ?_)
 refine qad [0] kz ?_
 refine qah (qaw mz mA (d:=3) (cs:=[.int .i16 0,.int .i32 0,.int .i32 0,.int .i32 0,.slice none 0 0,.slice none 0 0,.slice none 0 0,.slice none 0 0,.slice none 0 0,.map none]) kz fun aB x9 ya rS rT rU cL mB=>?_)
 refine qae (qaa ?_)
 refine qad [0,1,2,3,4,5] kz ?_
 refine qak [0] [1,2,3,4,5] [(1,.p 0 0),(2,.p 1 0),(3,.p 2 0),(16,.v (.agg #[.int .i64 n1,.slice A6 s2.length c7,.bool b3,.slice A8 l4.length c9,.slice ae u5.length af]))] cL mB fun yb mC=>?_
 refine qah (qai mC (f:=29) (vs:=[.agg #[.int .i64 n1,.slice A6 s2.length c7,.bool b3,.slice A8 l4.length c9,.slice ae u5.length af],.int .i64 0]) (d:=17) kz Tryz.call29 (iAt _ _ 0 _ _ (ht.move cL.step nilM cL.imm)) ?_)
 rintro e_ yc ⟨rV,rfl,mD,cN⟩
 have iY:=mD.move cN nilM (fun b o h_ hb_=>cL.laid (G:=F) cN b o (.inl h_) (Nat.lt_of_lt_of_le hb_ cN.size))
 obtain ⟨ar,yd,ye,yf,yg,yh,yi,yj,yk,yl,ym,rW,mE,eW,rX,rY,yn,yo⟩:=iY.open_
 rw [eW] at iY
 have oX:=rX.small
 have oY:=rY.small
 rw [eW]
 refine ⟨_,rfl,fun yp mF=>?_⟩
 have iZ:=cL.next_nil cN
 have rZ:=cL.frN cN
 refine qak [2,3,4] [5] [(1,.p 0 0),(2,.p 1 0),(3,.p 2 0),(19,.v (.int .i16 (IntKind.i16.wrap ar))),(20,.p 2 0)] iZ mF fun yq mG=>?_
 refine qah (qaj iZ mG (oi:=2) (cs:=[.int .i16 (IntKind.i16.wrap ar),.int .i32 0,.int .i32 0,.int .i32 0,.slice none 0 0,.slice none 0 0,.slice none 0 0,.slice none 0 0,.slice none 0 0,.map none]) kz fun yr r0 cM mH=>?_)
 refine qae (qaa ?_)
 refine qad [0,1,2,3,4,5] kz ?_
 refine qak [0] [1,2,3,4,5] [(1,.p 0 0),(2,.p 1 0),(3,.p 2 0),(21,.v (.agg #[.int .i64 n1,.slice A6 s2.length c7,.bool b3,.slice A8 l4.length c9,.slice ae u5.length af]))] cM mH fun yu mI=>?_
 refine qah (qai mI (f:=29) (vs:=[.agg #[.int .i64 n1,.slice A6 s2.length c7,.bool b3,.slice A8 l4.length c9,.slice ae u5.length af],.int .i64 1]) (d:=22) kz Tryz.call29 (iAt _ _ 1 _ _ (ht.move cM.step nilM cM.imm)) ?_)
 rintro e_ yv ⟨r2,rfl,mJ,cO⟩
 have i6:=mJ.move cO nilM (fun b o h_ hb_=>cM.laid (G:=F) cO b o (.inl h_) (Nat.lt_of_lt_of_le hb_ cO.size))
 obtain ⟨au,yw,yx,yy,yz,yA,yB,yC,yD,yE,yF,oZ,i7,cP,mK,mL,r3,r4⟩:=i6.open_
 rw [cP] at i6
 have mM:=mK.small
 have mN:=mL.small
 rw [cP]
 refine ⟨_,rfl,fun r5 ja=>?_⟩
 have eX:=cM.next_nil cO
 have o0:=cM.frN cO
 refine qak [2,3,4] [5] [(1,.p 0 0),(2,.p 1 0),(3,.p 2 0),(24,.v (.int .i32 (IntKind.i32.wrap au))),(25,.p 2 1)] eX ja fun r6 jb=>?_
 refine qah (qaj eX jb (oi:=2) (cs:=[.int .i16 (IntKind.i16.wrap ar),.int .i32 (IntKind.i32.wrap au),.int .i32 0,.int .i32 0,.slice none 0 0,.slice none 0 0,.slice none 0 0,.slice none 0 0,.slice none 0 0,.map none]) kz fun r7 o1 aY jc=>?_)
 refine qae (qaa ?_)
 refine qad [0,1,2,3,4,5] kz ?_
 refine qak [0] [1,2,3,4,5] [(1,.p 0 0),(2,.p 1 0),(3,.p 2 0),(26,.v (.agg #[.int .i64 n1,.slice A6 s2.length c7,.bool b3,.slice A8 l4.length c9,.slice ae u5.length af]))] aY jc fun r8 jd=>?_
 refine qah (qai jd (f:=29) (vs:=[.agg #[.int .i64 n1,.slice A6 s2.length c7,.bool b3,.slice A8 l4.length c9,.slice ae u5.length af],.int .i64 2]) (d:=27) kz Tryz.call29 (iAt _ _ 2 _ _ (ht.move aY.step nilM aY.imm)) ?_)
 rintro e_ r9 ⟨o2,rfl,je,br⟩
 have eY:=je.move br nilM (fun b o h_ hb_=>aY.laid (G:=F) br b o (.inl h_) (Nat.lt_of_lt_of_le hb_ br.size))
 obtain ⟨aa,sa,sc,sd,se,sf,sg,sh,si,sj,sk,o3,jf,cQ,mO,mP,sl,sm⟩:=eY.open_
 rw [cQ] at eY
 have mQ:=mO.small
 have mR:=mP.small
 rw [cQ]
 refine ⟨_,rfl,fun sn jg=>?_⟩
 have eZ:=aY.next_nil br
 have o4:=aY.frN br
 refine qak [2,3,4] [5] [(1,.p 0 0),(2,.p 1 0),(3,.p 2 0),(29,.v (.int .i32 (IntKind.i32.wrap aa))),(30,.p 2 2)] eZ jg fun sq jh=>?_
 refine qah (qaj eZ jh (oi:=2) (cs:=[.int .i16 (IntKind.i16.wrap ar),.int .i32 (IntKind.i32.wrap au),.int .i32 (IntKind.i32.wrap aa),.int .i32 0,.slice none 0 0,.slice none 0 0,.slice none 0 0,.slice none 0 0,.slice none 0 0,.map none]) kz fun sr o5 aZ ji=>?_)
 refine qae (qaa ?_)
 refine qad [0,1,2,3,4,5] kz ?_
 refine qak [0] [1,2,3,4,5] [(1,.p 0 0),(2,.p 1 0),(3,.p 2 0),(31,.v (.agg #[.int .i64 n1,.slice A6 s2.length c7,.bool b3,.slice A8 l4.length c9,.slice ae u5.length af]))] aZ ji fun ss jj=>?_
 refine qah (qai jj (f:=29) (vs:=[.agg #[.int .i64 n1,.slice A6 s2.length c7,.bool b3,.slice A8 l4.length c9,.slice ae u5.length af],.int .i64 3]) (d:=32) kz Tryz.call29 (iAt _ _ 3 _ _ (ht.move aZ.step nilM aZ.imm)) ?_)
 rintro e_ su ⟨o6,rfl,jk,bt⟩
 have e5:=jk.move bt nilM (fun b o h_ hb_=>aZ.laid (G:=F) bt b o (.inl h_) (Nat.lt_of_lt_of_le hb_ bt.size))
 obtain ⟨ab,sv,sw,sy,sA,sB,sC,sD,sE,sF,sG,o7,jl,cR,mS,mT,sH,sI⟩:=e5.open_
 rw [cR] at e5
 have mU:=mS.small
 have mV:=mT.small
 rw [cR]
 refine ⟨_,rfl,fun sJ jm=>?_⟩
 have e6:=aZ.next_nil bt
 have o8:=aZ.frN bt
 refine qak [2,3,4] [5] [(1,.p 0 0),(2,.p 1 0),(3,.p 2 0),(34,.v (.int .i32 (IntKind.i32.wrap ab))),(35,.p 2 3)] e6 jm fun sK jn=>?_
 refine qah (qaj e6 jn (oi:=2) (cs:=[.int .i16 (IntKind.i16.wrap ar),.int .i32 (IntKind.i32.wrap au),.int .i32 (IntKind.i32.wrap aa),.int .i32 (IntKind.i32.wrap ab),.slice none 0 0,.slice none 0 0,.slice none 0 0,.slice none 0 0,.slice none 0 0,.map none]) kz fun sL o9 ba jo=>?_)
 refine qae (qaa ?_)
 refine wp_seq ?_
 refine qad [0,1,2,3] kz ?_
 refine qak [0] [1,2,3] [(1,.p 0 0),(2,.p 1 0),(3,.p 2 0),(36,.v (.agg #[.int .i64 n1,.slice A6 s2.length c7,.bool b3,.slice A8 l4.length c9,.slice ae u5.length af]))] ba jo fun sM jp=>?_
 refine qah (qai jp (f:=29) (vs:=[.agg #[.int .i64 n1,.slice A6 s2.length c7,.bool b3,.slice A8 l4.length c9,.slice ae u5.length af],.int .i64 4]) (d:=37) kz Tryz.call29 (iAt _ _ 4 _ _ (ht.move ba.step nilM ba.imm)) ?_)
 rintro e_ sN ⟨pa,rfl,jq,bu⟩
 have e7:=jq.move bu nilM (fun b o h_ hb_=>ba.laid (G:=F) bu b o (.inl h_) (Nat.lt_of_lt_of_le hb_ bu.size))
 obtain ⟨sO,sP,eK,sQ,sR,sS,sT,sU,sV,sW,sX,pb,e9,cS,mW,mX,sY,sZ⟩:=e7.open_
 rw [cS] at e7
 have mY:=mW.small
 have mZ:=mX.small
 rw [cS]
 refine ⟨_,rfl,fun s0 jr=>?_⟩
 have aG:=ba.next_nil bu
 have pc:=ba.frN bu
 refine qak [2,3] [] [(1,.p 0 0),(2,.p 1 0),(3,.p 2 0),(39,.v (.bool (!eK)))] aG jr fun s3 cT=>?_
 refine qae (qaa ?_)
 refine qeg (Mid:=fun a_ w_=>∃ (A_:Option Addr) (c_:Nat) (f_:Nat → DV),A_.isNone = Tree.null (Tree.at_ (Tree.mk n1 s2 b3 l4 u5) 4) ∧ LstR w_ (Imm F w w_ [⟨aK,0,[.int .i64 n1,.slice A6 s2.length c7,.bool b3,.slice A8 l4.length c9,.slice ae u5.length af],true⟩,⟨aD,0,[.int .i16 0,.int .i32 0,.int .i32 0,.int .i32 0,.slice none 0 0,.slice none 0 0,.slice none 0 0,.slice none 0 0,.slice none 0 0,.map none],true⟩,⟨aB,0,[.int .i16 (IntKind.i16.wrap ar),.int .i32 (IntKind.i32.wrap au),.int .i32 (IntKind.i32.wrap aa),.int .i32 (IntKind.i32.wrap ab),.slice A_ ((lst (Tree.at_ (Tree.mk n1 s2 b3 l4 u5) 4)).length) c_,.slice none 0 0,.slice none 0 0,.slice none 0 0,.slice none 0 0,.map none],true⟩] []) 1 (fun d=>[.int .i32 d.n]) qdG (fun d t=>d.n = IntKind.i32.wrap t.N) A_ c_ f_ (lst (Tree.at_ (Tree.mk n1 s2 b3 l4 u5) 4)) ∧ LInv aG 186 [⟨aK,0,[.int .i64 n1,.slice A6 s2.length c7,.bool b3,.slice A8 l4.length c9,.slice ae u5.length af],true⟩,⟨aD,0,[.int .i16 0,.int .i32 0,.int .i32 0,.int .i32 0,.slice none 0 0,.slice none 0 0,.slice none 0 0,.slice none 0 0,.slice none 0 0,.map none],true⟩,⟨aB,0,[.int .i16 (IntKind.i16.wrap ar),.int .i32 (IntKind.i32.wrap au),.int .i32 (IntKind.i32.wrap aa),.int .i32 (IntKind.i32.wrap ab),.slice A_ ((lst (Tree.at_ (Tree.mk n1 s2 b3 l4 u5) 4)).length) c_,.slice none 0 0,.slice none 0 0,.slice none 0 0,.slice none 0 0,.map none],true⟩] [] [(1,.p 0 0),(2,.p 1 0),(3,.p 2 0)] a_ w_) ?_ ?_
 ·
  refine qau cT (b:=!eK) kz (fun cV=>?_) (fun cV=>?_)
  ·
   have hnull_:Tree.null (Tree.at_ (Tree.mk n1 s2 b3 l4 u5) 4) = false:=by rw [e9]; show eK = false; simpa using cV
   refine qad [0,1,2,3,4,5,6] kz ?_
   refine qak [0] [1,2,3,4,5,6] [(1,.p 0 0),(2,.p 1 0),(3,.p 2 0),(40,.v (.agg #[.int .i64 n1,.slice A6 s2.length c7,.bool b3,.slice A8 l4.length c9,.slice ae u5.length af]))] aG cT fun s4 js=>?_
   refine qah (qai js (f:=29) (vs:=[.agg #[.int .i64 n1,.slice A6 s2.length c7,.bool b3,.slice A8 l4.length c9,.slice ae u5.length af],.int .i64 4]) (d:=41) kz Tryz.call29 (iAt _ _ 4 _ _ (ht.move aG.step nilM aG.imm)) ?_)
   rintro e_ s5 ⟨pd,rfl,jt,bv⟩
   have fa:=jt.move bv nilM (fun b o h_ hb_=>aG.laid (G:=F) bv b o (.inl h_) (Nat.lt_of_lt_of_le hb_ bv.size))
   obtain ⟨s6,s7,s8,bQ,s9,ta,td,te,tf,tg,th,pe,ju,cW,m1,m2,tj,tk⟩:=fa.open_
   rw [cW] at fa
   have m3:=m1.small
   have m4:=m2.small
   rw [cW]
   refine ⟨_,rfl,fun tl jv=>?_⟩
   have fb:=aG.next_nil bv
   have jw:=aG.frN bv
   have hl3_:lst (Tree.at_ (Tree.mk n1 s2 b3 l4 u5) 4) = bQ:=by rw [qc5 hnull_,ju]; rfl
   have pf:bQ.length ≤ 1000000:=by have h_:=cj4; rw [hl3_] at h_; exact h_
   refine qak [2,3] [4,5,6] [(1,.p 0 0),(2,.p 1 0),(3,.p 2 0),(43,.v (.int .i64 ((bQ.length:Nat):Int)))] fb jv fun tm jx=>?_
   refine qah (qcn fb jx (d:=44) (j:=bQ.length) (t:=88) (e:=21) (size:=1) (bytes:=4) kz kz rfl (rfl) (by omega) fun f9 tn tp pg ph jy fc jz=>?_)
   refine qak [5] [6] [(1,.p 0 0),(2,.p 1 0),(3,.p 2 0),(44,.v (.slice (some ⟨f9,0,none⟩) 0 bQ.length)),(45,.p 2 4)] fc jz fun tq jA=>?_
   refine qah (qaj fc jA (oi:=2) (cs:=[.int .i16 (IntKind.i16.wrap ar),.int .i32 (IntKind.i32.wrap au),.int .i32 (IntKind.i32.wrap aa),.int .i32 (IntKind.i32.wrap ab),.slice (some ⟨f9,0,none⟩) 0 bQ.length,.slice none 0 0,.slice none 0 0,.slice none 0 0,.slice none 0 0,.map none]) kz fun tt jB bd jC=>?_)
   refine qae (qaa ?_)
   refine qad [0,1,2,3,4] kz ?_
   refine qak [0] [1,2,3,4] [(1,.p 0 0),(2,.p 1 0),(3,.p 2 0),(46,.v (.agg #[.int .i64 n1,.slice A6 s2.length c7,.bool b3,.slice A8 l4.length c9,.slice ae u5.length af]))] bd jC fun tu jD=>?_
   refine qah (qai jD (f:=29) (vs:=[.agg #[.int .i64 n1,.slice A6 s2.length c7,.bool b3,.slice A8 l4.length c9,.slice ae u5.length af],.int .i64 4]) (d:=47) kz Tryz.call29 (iAt _ _ 4 _ _ (ht.move bd.step nilM bd.imm)) ?_)
   rintro e_ tv ⟨pi,rfl,jE,bw⟩
   have fe:=jE.move bw nilM (fun b o h_ hb_=>bd.laid (G:=F) bw b o (.inl h_) (Nat.lt_of_lt_of_le hb_ bw.size))
   obtain ⟨tw,tx,tz,ak,tA,tB,tC,bz,bR,tD,tE,pj,jF,cX,m5,jG,m6,tF⟩:=fe.open_
   rw [cX] at fe
   have m7:=m5.small
   have m8:=jG.small
   rw [cX]
   refine ⟨_,rfl,fun tG jH=>?_⟩
   have cY:=bd.next_nil bw
   have jI:=bd.frN bw
   have hl3_:lst (Tree.at_ (Tree.mk n1 s2 b3 l4 u5) 4) = ak:=by rw [qc5 hnull_,jF]; rfl
   have pl:ak.length ≤ 1000000:=by have h_:=cj4; rw [hl3_] at h_; exact h_
   refine qak [2,3,4] [] [(1,.p 0 0),(2,.p 1 0),(3,.p 2 0),(48,.v (.slice bz ak.length bR)),(49,.v (.int .i64 ((ak.length:Nat):Int))),(50,.v (.int .i64 0))] cY jH fun tH jJ=>?_
   refine qae (qaa ?_)
   refine wp_block ?_
   refine wp_loop_ghost (fun n_ a_ w_=>∃ (k:Nat) (A_:Option Addr) (c_:Nat) (xs_:List Value) (ds_:List DV),n_ = ak.length - k ∧ k ≤ ak.length ∧ (A_.isNone = false) ∧ (RowL w_ (Imm F w w_ [⟨aK,0,[.int .i64 n1,.slice A6 s2.length c7,.bool b3,.slice A8 l4.length c9,.slice ae u5.length af],true⟩,⟨aD,0,[.int .i16 0,.int .i32 0,.int .i32 0,.int .i32 0,.slice none 0 0,.slice none 0 0,.slice none 0 0,.slice none 0 0,.slice none 0 0,.map none],true⟩,⟨aB,0,[.int .i16 (IntKind.i16.wrap ar),.int .i32 (IntKind.i32.wrap au),.int .i32 (IntKind.i32.wrap aa),.int .i32 (IntKind.i32.wrap ab),.slice A_ k c_,.slice none 0 0,.slice none 0 0,.slice none 0 0,.slice none 0 0,.map none],true⟩] [⟨A_,c_,21,1,k,xs_⟩]) 1 (fun d=>[.int .i32 d.n]) qdG (fun d t=>d.n = IntKind.i32.wrap t.N) xs_ ds_ (ak.take k)) ∧ LInv cY 186 [⟨aK,0,[.int .i64 n1,.slice A6 s2.length c7,.bool b3,.slice A8 l4.length c9,.slice ae u5.length af],true⟩,⟨aD,0,[.int .i16 0,.int .i32 0,.int .i32 0,.int .i32 0,.slice none 0 0,.slice none 0 0,.slice none 0 0,.slice none 0 0,.slice none 0 0,.map none],true⟩,⟨aB,0,[.int .i16 (IntKind.i16.wrap ar),.int .i32 (IntKind.i32.wrap au),.int .i32 (IntKind.i32.wrap aa),.int .i32 (IntKind.i32.wrap ab),.slice A_ k c_,.slice none 0 0,.slice none 0 0,.slice none 0 0,.slice none 0 0,.map none],true⟩] [⟨A_,c_,21,1,k,xs_⟩] [(1,.p 0 0),(2,.p 1 0),(3,.p 2 0),(48,.v (.slice bz ak.length bR)),(49,.v (.int .i64 ((ak.length:Nat):Int))),(50,.v (.int .i64 ((k:Nat):Int)))] a_ w_) (ak.length) ⟨0,(some ⟨f9,0,none⟩),bQ.length,[],[],by omega,by omega,rfl,RowL.nil qd2,jJ.pk,cY,Fr.refl _ _ _⟩ ?_
   rintro tI tJ tK ⟨k,A_,c_,xs_,ds_,pm,pn,hA,hR,jK,cm,cq⟩
   refine qaz [(1,.p 0 0),(2,.p 1 0),(3,.p 2 0),(48,.v (.slice bz ak.length bR)),(49,.v (.int .i64 ((ak.length:Nat):Int))),(50,.v (.int .i64 ((k:Nat):Int))),(51,.v (.bool (decide (((k:Nat):Int) < ((ak.length:Nat):Int)))))] cm jK fun tL cZ=>?_
   refine wp_seq ?_
   refine qau cZ (b:=decide (((k:Nat):Int) < ((ak.length:Nat):Int))) kz (fun c5=>?_) (fun c5=>?_)
   ·
    have po:=of_decide_eq_true c5
    refine wp_skip ?_
    refine qaa ?_
    refine wp_seq ?_
    refine wp_block ?_
    refine qad [0,1,2,3] kz ?_
    obtain ⟨m9,na,jL,pp,c8⟩:=Slots.get jG (i:=k) (by omega)
    obtain ⟨nb,ff⟩:∃ x,ak[k]? = some x:=⟨_,List.getElem?_eq_getElem (by omega)⟩
    have fg:=m6 k nb ff
    obtain ⟨bA,ga,gb,gc,gd,ge,gf,gg,gh,gi,gj,pq,rfl,da,nc,nf,tM,tN⟩:=fg.open_
    rw [da] at fg
    have ng:=nc.small
    have nh:=nf.small
    rw [da] at c8
    refine qah (qaM cZ (t:=36) (A:=bz) (m:=ak.length) (q:=((k:Nat):Int)) (d:=52) kz (e:=39) (size:=5) (bytes:=88) kz jL rfl (by omega) fun tO jM=>?_)
    refine qah (qa0 jM (t:=39) (b:=m9) (o:=na + k * 5) (d:=53) kz (cs:=[.int .i64 bA,.slice ge ga.length gf,.bool gb,.slice gg gc.length gh,.slice gi gd.length gj]) (v:=.agg #[.int .i64 bA,.slice ge ga.length gf,.bool gb,.slice gg gc.length gh,.slice gi gd.length gj]) kz (AtF.move c8 cq.step immM cq.to').at_ fun tP jN=>?_)
    refine qah (qaw cm jN (d:=5) (cs:=[.int .i64 0,.slice none 0 0,.bool false,.slice none 0 0,.slice none 0 0]) kz fun tQ tR tS pr pt db jO jP=>?_)
    refine qah (qaj jO jP (oi:=3) (cs:=[.int .i64 bA,.slice ge ga.length gf,.bool gb,.slice gg gc.length gh,.slice gi gd.length gj]) kz fun tT dc fh jQ=>?_)
    refine qae (qaa ?_)
    refine qap [0,1,2,3,4,5,6,7,8] kz ?_
    refine qak [0,1,2,3,4] [5,6,7,8] [(1,.p 0 0),(2,.p 1 0),(3,.p 2 0),(48,.v (.slice bz ak.length bR)),(49,.v (.int .i64 ((ak.length:Nat):Int))),(50,.v (.int .i64 ((k:Nat):Int))),(55,.v (.slice A_ k c_)),(58,.v (.int .i32 (IntKind.i32.wrap bA)))] fh jQ fun tU jR=>?_
    refine qbl fh jR (k:=0) (e:=21) (size:=1) (len:=1) (cs:=[.int .i32 (IntKind.i32.wrap bA)]) (d1:=59) (d:=60) kz (t:=88) (bytes:=4) kz (fun _=>by kernel_rfl) rfl kz (by omega) fun eL eM tV tW de fi ⟨_,jS⟩=>?_
    refine qak [7] [8] [(1,.p 0 0),(2,.p 1 0),(3,.p 2 0),(48,.v (.slice bz ak.length bR)),(49,.v (.int .i64 ((ak.length:Nat):Int))),(50,.v (.int .i64 ((k:Nat):Int))),(60,.v (.slice eL (k + 1) eM)),(61,.p 2 4)] fi jS fun tX jT=>?_
    refine qah (qaj fi jT (oi:=2) (cs:=[.int .i16 (IntKind.i16.wrap ar),.int .i32 (IntKind.i32.wrap au),.int .i32 (IntKind.i32.wrap aa),.int .i32 (IntKind.i32.wrap ab),.slice eL (k + 1) eM,.slice none 0 0,.slice none 0 0,.slice none 0 0,.slice none 0 0,.map none]) kz fun tY df fj jU=>?_)
    refine qae ?_
    refine qas ?_
    refine qaa ?_
    refine qap [0,1] kz ?_
    refine qak [0,1] [] [(1,.p 0 0),(2,.p 1 0),(3,.p 2 0),(48,.v (.slice bz ak.length bR)),(49,.v (.int .i64 ((ak.length:Nat):Int))),(50,.v (.int .i64 (IntKind.i64.wrap (((k:Nat):Int) + 1))))] fj jU fun tZ jV=>?_
    refine qae (qaa ?_)
    obtain ⟨fk,fl,dg⟩:=fj.cutB jV 3 [⟨aK,0,[.int .i64 n1,.slice A6 s2.length c7,.bool b3,.slice A8 l4.length c9,.slice ae u5.length af],true⟩,⟨aD,0,[.int .i16 0,.int .i32 0,.int .i32 0,.int .i32 0,.slice none 0 0,.slice none 0 0,.slice none 0 0,.slice none 0 0,.slice none 0 0,.map none],true⟩,⟨aB,0,[.int .i16 (IntKind.i16.wrap ar),.int .i32 (IntKind.i32.wrap au),.int .i32 (IntKind.i32.wrap aa),.int .i32 (IntKind.i32.wrap ab),.slice eL (k + 1) eM,.slice none 0 0,.slice none 0 0,.slice none 0 0,.slice none 0 0,.map none],true⟩] [(1,.p 0 0),(2,.p 1 0),(3,.p 2 0),(48,.v (.slice bz ak.length bR)),(49,.v (.int .i64 ((ak.length:Nat):Int))),(50,.v (.int .i64 (IntKind.i64.wrap (((k:Nat):Int) + 1))))]
    have jW:IntKind.i64.wrap (((k:Nat):Int) + 1) = ((k + 1:Nat):Int):=qaN (by omega)
    rw [jW] at fk
    exact ⟨ak.length - (k + 1),by omega,k + 1,eL,eM,xs_ ++ [Value.int .i32 (IntKind.i32.wrap bA)],(ds_ ++ [(dvN (IntKind.i32.wrap bA))]),rfl,by omega,qdq fl (k:=0) rfl (by omega),RowL.snoc (d:=(dvN (IntKind.i32.wrap bA))) (hR.move ((((db.trans dc).trans de).trans df).trans dg).step immM ((((db.trans dc).trans de).trans df).trans dg).to') ff rfl trivial rfl,fk.pk,fl,(((((cq.trans db).trans dc).trans de).trans df).trans dg)⟩
   have pu:=of_decide_eq_false c5
   refine wp_exit ?_
   refine qar ?_
   refine qar ?_
   refine qaE ?_
   refine qaa ?_
   have hk_:k = (lst (Tree.at_ (Tree.mk n1 s2 b3 l4 u5) 4)).length:=by rw [hl3_]; omega
   subst k
   have hL_:=LstR.of cm (k:=0) (rs':=[]) rfl hR (by rw [hl3_]) (fun d=>qbq kz) (by omega)
   rw [← hl3_] at hL_
   obtain ⟨jX,jY⟩:=cm.cutR 0 []
   exact ⟨_,_,_,by rw [hnull_]; exact hA,hL_,cZ.pk,jX,(((((jw.trans jy).trans jB).trans jI).trans cq).trans jY)⟩
  refine wp_skip ?_
  refine qaa ?_
  have hn_:Tree.null (Tree.at_ (Tree.mk n1 s2 b3 l4 u5) 4) = true:=by rw [e9]; show eK = true; simpa using cV
  have hl_:=qfk hn_
  exact ⟨none,0,fun _=>dv0,by rw [hn_]; rfl,by rw [hl_]; exact LstR.nil qd2,by rw [hl_]; exact ⟨cT.pk,aG,Fr.refl _ _ _⟩⟩
 rintro t6 t7 ⟨ag,ah,ni,jZ,fm,j0,bf,pv⟩
 refine wp_seq ?_
 refine qad [0,1,2,3] kz ?_
 refine qak [0] [1,2,3] [(1,.p 0 0),(2,.p 1 0),(3,.p 2 0),(63,.v (.agg #[.int .i64 n1,.slice A6 s2.length c7,.bool b3,.slice A8 l4.length c9,.slice ae u5.length af]))] bf j0 fun t8 j1=>?_
 refine qah (qai j1 (f:=29) (vs:=[.agg #[.int .i64 n1,.slice A6 s2.length c7,.bool b3,.slice A8 l4.length c9,.slice ae u5.length af],.int .i64 5]) (d:=64) kz Tryz.call29 (iAt _ _ 5 _ _ (ht.move bf.step nilM bf.imm)) ?_)
 rintro e_ ua ⟨pw,rfl,j2,bB⟩
 have fo:=j2.move bB nilM (fun b o h_ hb_=>bf.laid (G:=F) bB b o (.inl h_) (Nat.lt_of_lt_of_le hb_ bB.size))
 obtain ⟨ub,uc,eN,ud,ue,uf,ug,uh,ui,uj,uk,px,fp,dh,nj,nk,ul,um⟩:=fo.open_
 rw [dh] at fo
 have nl:=nj.small
 have nm:=nk.small
 rw [dh]
 refine ⟨_,rfl,fun un j3=>?_⟩
 have aH:=bf.next_nil bB
 have fq:=bf.frN bB
 refine qak [2,3] [] [(1,.p 0 0),(2,.p 1 0),(3,.p 2 0),(66,.v (.bool (!eN)))] aH j3 fun uo di=>?_
 refine qae (qaa ?_)
 refine qeg (Mid:=fun a_ w_=>∃ (A_:Option Addr) (c_:Nat) (f_:Nat → DV),A_.isNone = Tree.null (Tree.at_ (Tree.mk n1 s2 b3 l4 u5) 5) ∧ LstR w_ (Imm F w w_ [⟨aK,0,[.int .i64 n1,.slice A6 s2.length c7,.bool b3,.slice A8 l4.length c9,.slice ae u5.length af],true⟩,⟨aD,0,[.int .i16 0,.int .i32 0,.int .i32 0,.int .i32 0,.slice none 0 0,.slice none 0 0,.slice none 0 0,.slice none 0 0,.slice none 0 0,.map none],true⟩,⟨aB,0,[.int .i16 (IntKind.i16.wrap ar),.int .i32 (IntKind.i32.wrap au),.int .i32 (IntKind.i32.wrap aa),.int .i32 (IntKind.i32.wrap ab),.slice ag ((lst (Tree.at_ (Tree.mk n1 s2 b3 l4 u5) 4)).length) ah,.slice A_ ((lst (Tree.at_ (Tree.mk n1 s2 b3 l4 u5) 5)).length) c_,.slice none 0 0,.slice none 0 0,.slice none 0 0,.map none],true⟩] []) 1 (fun d=>[.int .i32 d.n]) qdG (fun d t=>d.n = IntKind.i32.wrap t.N) A_ c_ f_ (lst (Tree.at_ (Tree.mk n1 s2 b3 l4 u5) 5)) ∧ LInv aH 186 [⟨aK,0,[.int .i64 n1,.slice A6 s2.length c7,.bool b3,.slice A8 l4.length c9,.slice ae u5.length af],true⟩,⟨aD,0,[.int .i16 0,.int .i32 0,.int .i32 0,.int .i32 0,.slice none 0 0,.slice none 0 0,.slice none 0 0,.slice none 0 0,.slice none 0 0,.map none],true⟩,⟨aB,0,[.int .i16 (IntKind.i16.wrap ar),.int .i32 (IntKind.i32.wrap au),.int .i32 (IntKind.i32.wrap aa),.int .i32 (IntKind.i32.wrap ab),.slice ag ((lst (Tree.at_ (Tree.mk n1 s2 b3 l4 u5) 4)).length) ah,.slice A_ ((lst (Tree.at_ (Tree.mk n1 s2 b3 l4 u5) 5)).length) c_,.slice none 0 0,.slice none 0 0,.slice none 0 0,.map none],true⟩] [] [(1,.p 0 0),(2,.p 1 0),(3,.p 2 0)] a_ w_) ?_ ?_
 ·
  refine qau di (b:=!eN) kz (fun dj=>?_) (fun dj=>?_)
  ·
   have hnull_:Tree.null (Tree.at_ (Tree.mk n1 s2 b3 l4 u5) 5) = false:=by rw [fp]; show eN = false; simpa using dj
   refine qad [0,1,2,3,4,5,6] kz ?_
   refine qak [0] [1,2,3,4,5,6] [(1,.p 0 0),(2,.p 1 0),(3,.p 2 0),(67,.v (.agg #[.int .i64 n1,.slice A6 s2.length c7,.bool b3,.slice A8 l4.length c9,.slice ae u5.length af]))] aH di fun uq j4=>?_
   refine qah (qai j4 (f:=29) (vs:=[.agg #[.int .i64 n1,.slice A6 s2.length c7,.bool b3,.slice A8 l4.length c9,.slice ae u5.length af],.int .i64 5]) (d:=68) kz Tryz.call29 (iAt _ _ 5 _ _ (ht.move aH.step nilM aH.imm)) ?_)
   rintro e_ ur ⟨pz,rfl,j5,bC⟩
   have fr:=j5.move bC nilM (fun b o h_ hb_=>aH.laid (G:=F) bC b o (.inl h_) (Nat.lt_of_lt_of_le hb_ bC.size))
   obtain ⟨ut,uu,uw,bS,ux,uy,uz,uA,uB,uC,uD,pA,j6,dl,np,nr,uE,uF⟩:=fr.open_
   rw [dl] at fr
   have ns:=np.small
   have nt:=nr.small
   rw [dl]
   refine ⟨_,rfl,fun uG j7=>?_⟩
   have ft:=aH.next_nil bC
   have j8:=aH.frN bC
   have hl3_:lst (Tree.at_ (Tree.mk n1 s2 b3 l4 u5) 5) = bS:=by rw [qc5 hnull_,j6]; rfl
   have pB:bS.length ≤ 1000000:=by have h_:=cj5; rw [hl3_] at h_; exact h_
   refine qak [2,3] [4,5,6] [(1,.p 0 0),(2,.p 1 0),(3,.p 2 0),(70,.v (.int .i64 ((bS.length:Nat):Int)))] ft j7 fun uH j9=>?_
   refine qah (qcn ft j9 (d:=71) (j:=bS.length) (t:=88) (e:=21) (size:=1) (bytes:=4) kz kz rfl (rfl) (by omega) fun gk uI uJ pC pD ka fu kd=>?_)
   refine qak [5] [6] [(1,.p 0 0),(2,.p 1 0),(3,.p 2 0),(71,.v (.slice (some ⟨gk,0,none⟩) 0 bS.length)),(72,.p 2 5)] fu kd fun uK ke=>?_
   refine qah (qaj fu ke (oi:=2) (cs:=[.int .i16 (IntKind.i16.wrap ar),.int .i32 (IntKind.i32.wrap au),.int .i32 (IntKind.i32.wrap aa),.int .i32 (IntKind.i32.wrap ab),.slice ag ((lst (Tree.at_ (Tree.mk n1 s2 b3 l4 u5) 4)).length) ah,.slice (some ⟨gk,0,none⟩) 0 bS.length,.slice none 0 0,.slice none 0 0,.slice none 0 0,.map none]) kz fun uL kf bg kg=>?_)
   refine qae (qaa ?_)
   refine qad [0,1,2,3,4] kz ?_
   refine qak [0] [1,2,3,4] [(1,.p 0 0),(2,.p 1 0),(3,.p 2 0),(73,.v (.agg #[.int .i64 n1,.slice A6 s2.length c7,.bool b3,.slice A8 l4.length c9,.slice ae u5.length af]))] bg kg fun uM kh=>?_
   refine qah (qai kh (f:=29) (vs:=[.agg #[.int .i64 n1,.slice A6 s2.length c7,.bool b3,.slice A8 l4.length c9,.slice ae u5.length af],.int .i64 5]) (d:=74) kz Tryz.call29 (iAt _ _ 5 _ _ (ht.move bg.step nilM bg.imm)) ?_)
   rintro e_ uN ⟨pE,rfl,ki,bD⟩
   have fv:=ki.move bD nilM (fun b o h_ hb_=>bg.laid (G:=F) bD b o (.inl h_) (Nat.lt_of_lt_of_le hb_ bD.size))
   obtain ⟨uO,uP,uQ,al,uR,uS,uT,bE,bT,uU,uV,pF,kj,dp,nu,km,nv,uW⟩:=fv.open_
   rw [dp] at fv
   have nw:=nu.small
   have nx:=km.small
   rw [dp]
   refine ⟨_,rfl,fun uX kn=>?_⟩
   have dq:=bg.next_nil bD
   have ko:=bg.frN bD
   have hl3_:lst (Tree.at_ (Tree.mk n1 s2 b3 l4 u5) 5) = al:=by rw [qc5 hnull_,kj]; rfl
   have pG:al.length ≤ 1000000:=by have h_:=cj5; rw [hl3_] at h_; exact h_
   refine qak [2,3,4] [] [(1,.p 0 0),(2,.p 1 0),(3,.p 2 0),(75,.v (.slice bE al.length bT)),(76,.v (.int .i64 ((al.length:Nat):Int))),(77,.v (.int .i64 0))] dq kn fun uY kp=>?_
   refine qae (qaa ?_)
   refine wp_block ?_
   refine wp_loop_ghost (fun n_ a_ w_=>∃ (k:Nat) (A_:Option Addr) (c_:Nat) (xs_:List Value) (ds_:List DV),n_ = al.length - k ∧ k ≤ al.length ∧ (A_.isNone = false) ∧ (RowL w_ (Imm F w w_ [⟨aK,0,[.int .i64 n1,.slice A6 s2.length c7,.bool b3,.slice A8 l4.length c9,.slice ae u5.length af],true⟩,⟨aD,0,[.int .i16 0,.int .i32 0,.int .i32 0,.int .i32 0,.slice none 0 0,.slice none 0 0,.slice none 0 0,.slice none 0 0,.slice none 0 0,.map none],true⟩,⟨aB,0,[.int .i16 (IntKind.i16.wrap ar),.int .i32 (IntKind.i32.wrap au),.int .i32 (IntKind.i32.wrap aa),.int .i32 (IntKind.i32.wrap ab),.slice ag ((lst (Tree.at_ (Tree.mk n1 s2 b3 l4 u5) 4)).length) ah,.slice A_ k c_,.slice none 0 0,.slice none 0 0,.slice none 0 0,.map none],true⟩] [⟨A_,c_,21,1,k,xs_⟩]) 1 (fun d=>[.int .i32 d.n]) qdG (fun d t=>d.n = IntKind.i32.wrap t.N) xs_ ds_ (al.take k)) ∧ LInv dq 186 [⟨aK,0,[.int .i64 n1,.slice A6 s2.length c7,.bool b3,.slice A8 l4.length c9,.slice ae u5.length af],true⟩,⟨aD,0,[.int .i16 0,.int .i32 0,.int .i32 0,.int .i32 0,.slice none 0 0,.slice none 0 0,.slice none 0 0,.slice none 0 0,.slice none 0 0,.map none],true⟩,⟨aB,0,[.int .i16 (IntKind.i16.wrap ar),.int .i32 (IntKind.i32.wrap au),.int .i32 (IntKind.i32.wrap aa),.int .i32 (IntKind.i32.wrap ab),.slice ag ((lst (Tree.at_ (Tree.mk n1 s2 b3 l4 u5) 4)).length) ah,.slice A_ k c_,.slice none 0 0,.slice none 0 0,.slice none 0 0,.map none],true⟩] [⟨A_,c_,21,1,k,xs_⟩] [(1,.p 0 0),(2,.p 1 0),(3,.p 2 0),(75,.v (.slice bE al.length bT)),(76,.v (.int .i64 ((al.length:Nat):Int))),(77,.v (.int .i64 ((k:Nat):Int)))] a_ w_) (al.length) ⟨0,(some ⟨gk,0,none⟩),bS.length,[],[],by omega,by omega,rfl,RowL.nil qd2,kp.pk,dq,Fr.refl _ _ _⟩ ?_
   rintro uZ u0 u1 ⟨k,A_,c_,xs_,ds_,pH,pI,hA,hR,kq,cr,cu⟩
   refine qaz [(1,.p 0 0),(2,.p 1 0),(3,.p 2 0),(75,.v (.slice bE al.length bT)),(76,.v (.int .i64 ((al.length:Nat):Int))),(77,.v (.int .i64 ((k:Nat):Int))),(78,.v (.bool (decide (((k:Nat):Int) < ((al.length:Nat):Int)))))] cr kq fun u2 dr=>?_
   refine wp_seq ?_
   refine qau dr (b:=decide (((k:Nat):Int) < ((al.length:Nat):Int))) kz (fun dt=>?_) (fun dt=>?_)
   ·
    have pJ:=of_decide_eq_true dt
    refine wp_skip ?_
    refine qaa ?_
    refine wp_seq ?_
    refine wp_block ?_
    refine qad [0,1,2,3] kz ?_
    obtain ⟨ny,nz,ku,pK,du⟩:=Slots.get km (i:=k) (by omega)
    obtain ⟨nA,fw⟩:∃ x,al[k]? = some x:=⟨_,List.getElem?_eq_getElem (by omega)⟩
    have fx:=nv k nA fw
    obtain ⟨bF,gl,gm,gn,gp,gq,gt,gu,gv,gw,gx,pL,rfl,dv,nB,nC,u3,u4⟩:=fx.open_
    rw [dv] at fx
    have nD:=nB.small
    have nE:=nC.small
    rw [dv] at du
    refine qah (qaM dr (t:=36) (A:=bE) (m:=al.length) (q:=((k:Nat):Int)) (d:=79) kz (e:=39) (size:=5) (bytes:=88) kz ku rfl (by omega) fun u6 kv=>?_)
    refine qah (qa0 kv (t:=39) (b:=ny) (o:=nz + k * 5) (d:=80) kz (cs:=[.int .i64 bF,.slice gq gl.length gt,.bool gm,.slice gu gn.length gv,.slice gw gp.length gx]) (v:=.agg #[.int .i64 bF,.slice gq gl.length gt,.bool gm,.slice gu gn.length gv,.slice gw gp.length gx]) kz (AtF.move du cu.step immM cu.to').at_ fun u7 kw=>?_)
    refine qah (qaw cr kw (d:=7) (cs:=[.int .i64 0,.slice none 0 0,.bool false,.slice none 0 0,.slice none 0 0]) kz fun u9 va vb pM pN dw kx ky=>?_)
    refine qah (qaj kx ky (oi:=3) (cs:=[.int .i64 bF,.slice gq gl.length gt,.bool gm,.slice gu gn.length gv,.slice gw gp.length gx]) kz fun vc dx fy kA=>?_)
    refine qae (qaa ?_)
    refine qap [0,1,2,3,4,5,6,7,8] kz ?_
    refine qak [0,1,2,3,4] [5,6,7,8] [(1,.p 0 0),(2,.p 1 0),(3,.p 2 0),(75,.v (.slice bE al.length bT)),(76,.v (.int .i64 ((al.length:Nat):Int))),(77,.v (.int .i64 ((k:Nat):Int))),(82,.v (.slice A_ k c_)),(85,.v (.int .i32 (IntKind.i32.wrap bF)))] fy kA fun vd kB=>?_
    refine qbl fy kB (k:=0) (e:=21) (size:=1) (len:=1) (cs:=[.int .i32 (IntKind.i32.wrap bF)]) (d1:=86) (d:=87) kz (t:=88) (bytes:=4) kz (fun _=>by kernel_rfl) rfl kz (by omega) fun eO eP ve vf dy fz ⟨_,kC⟩=>?_
    refine qak [7] [8] [(1,.p 0 0),(2,.p 1 0),(3,.p 2 0),(75,.v (.slice bE al.length bT)),(76,.v (.int .i64 ((al.length:Nat):Int))),(77,.v (.int .i64 ((k:Nat):Int))),(87,.v (.slice eO (k + 1) eP)),(88,.p 2 5)] fz kC fun vg kD=>?_
    refine qah (qaj fz kD (oi:=2) (cs:=[.int .i16 (IntKind.i16.wrap ar),.int .i32 (IntKind.i32.wrap au),.int .i32 (IntKind.i32.wrap aa),.int .i32 (IntKind.i32.wrap ab),.slice ag ((lst (Tree.at_ (Tree.mk n1 s2 b3 l4 u5) 4)).length) ah,.slice eO (k + 1) eP,.slice none 0 0,.slice none 0 0,.slice none 0 0,.map none]) kz fun vh dA fA kE=>?_)
    refine qae ?_
    refine qas ?_
    refine qaa ?_
    refine qap [0,1] kz ?_
    refine qak [0,1] [] [(1,.p 0 0),(2,.p 1 0),(3,.p 2 0),(75,.v (.slice bE al.length bT)),(76,.v (.int .i64 ((al.length:Nat):Int))),(77,.v (.int .i64 (IntKind.i64.wrap (((k:Nat):Int) + 1))))] fA kE fun vj kF=>?_
    refine qae (qaa ?_)
    obtain ⟨fB,fC,dB⟩:=fA.cutB kF 3 [⟨aK,0,[.int .i64 n1,.slice A6 s2.length c7,.bool b3,.slice A8 l4.length c9,.slice ae u5.length af],true⟩,⟨aD,0,[.int .i16 0,.int .i32 0,.int .i32 0,.int .i32 0,.slice none 0 0,.slice none 0 0,.slice none 0 0,.slice none 0 0,.slice none 0 0,.map none],true⟩,⟨aB,0,[.int .i16 (IntKind.i16.wrap ar),.int .i32 (IntKind.i32.wrap au),.int .i32 (IntKind.i32.wrap aa),.int .i32 (IntKind.i32.wrap ab),.slice ag ((lst (Tree.at_ (Tree.mk n1 s2 b3 l4 u5) 4)).length) ah,.slice eO (k + 1) eP,.slice none 0 0,.slice none 0 0,.slice none 0 0,.map none],true⟩] [(1,.p 0 0),(2,.p 1 0),(3,.p 2 0),(75,.v (.slice bE al.length bT)),(76,.v (.int .i64 ((al.length:Nat):Int))),(77,.v (.int .i64 (IntKind.i64.wrap (((k:Nat):Int) + 1))))]
    have kG:IntKind.i64.wrap (((k:Nat):Int) + 1) = ((k + 1:Nat):Int):=qaN (by omega)
    rw [kG] at fB
    exact ⟨al.length - (k + 1),by omega,k + 1,eO,eP,xs_ ++ [Value.int .i32 (IntKind.i32.wrap bF)],(ds_ ++ [(dvN (IntKind.i32.wrap bF))]),rfl,by omega,qdq fC (k:=0) rfl (by omega),RowL.snoc (d:=(dvN (IntKind.i32.wrap bF))) (hR.move ((((dw.trans dx).trans dy).trans dA).trans dB).step immM ((((dw.trans dx).trans dy).trans dA).trans dB).to') fw rfl trivial rfl,fB.pk,fC,(((((cu.trans dw).trans dx).trans dy).trans dA).trans dB)⟩
   have pO:=of_decide_eq_false dt
   refine wp_exit ?_
   refine qar ?_
   refine qar ?_
   refine qaE ?_
   refine qaa ?_
   have hk_:k = (lst (Tree.at_ (Tree.mk n1 s2 b3 l4 u5) 5)).length:=by rw [hl3_]; omega
   subst k
   have hL_:=LstR.of cr (k:=0) (rs':=[]) rfl hR (by rw [hl3_]) (fun d=>qbq kz) (by omega)
   rw [← hl3_] at hL_
   obtain ⟨kH,kI⟩:=cr.cutR 0 []
   exact ⟨_,_,_,by rw [hnull_]; exact hA,hL_,dr.pk,kH,(((((j8.trans ka).trans kf).trans ko).trans cu).trans kI)⟩
  refine wp_skip ?_
  refine qaa ?_
  have hn_:Tree.null (Tree.at_ (Tree.mk n1 s2 b3 l4 u5) 5) = true:=by rw [fp]; show eN = true; simpa using dj
  have hl_:=qfk hn_
  exact ⟨none,0,fun _=>dv0,by rw [hn_]; rfl,by rw [hl_]; exact LstR.nil qd2,by rw [hl_]; exact ⟨di.pk,aH,Fr.refl _ _ _⟩⟩
 rintro vk vl ⟨ai,aj,nF,kJ,fD,kK,bh,fE⟩
 refine wp_seq ?_
 refine qad [0,1,2,3] kz ?_
 refine qak [0] [1,2,3] [(1,.p 0 0),(2,.p 1 0),(3,.p 2 0),(90,.v (.agg #[.int .i64 n1,.slice A6 s2.length c7,.bool b3,.slice A8 l4.length c9,.slice ae u5.length af]))] bh kK fun vm kL=>?_
 refine qah (qai kL (f:=29) (vs:=[.agg #[.int .i64 n1,.slice A6 s2.length c7,.bool b3,.slice A8 l4.length c9,.slice ae u5.length af],.int .i64 6]) (d:=91) kz Tryz.call29 (iAt _ _ 6 _ _ (ht.move bh.step nilM bh.imm)) ?_)
 rintro e_ vn ⟨pP,rfl,kM,bG⟩
 have fF:=kM.move bG nilM (fun b o h_ hb_=>bh.laid (G:=F) bG b o (.inl h_) (Nat.lt_of_lt_of_le hb_ bG.size))
 obtain ⟨vo,vp,eQ,vq,vr,vt,vu,vv,vw,vx,vy,pQ,fG,dC,nG,nH,vz,vA⟩:=fF.open_
 rw [dC] at fF
 have nI:=nG.small
 have nJ:=nH.small
 rw [dC]
 refine ⟨_,rfl,fun vB kN=>?_⟩
 have aI:=bh.next_nil bG
 have cv:=bh.frN bG
 refine qak [2,3] [] [(1,.p 0 0),(2,.p 1 0),(3,.p 2 0),(93,.v (.bool (!eQ)))] aI kN fun vC dD=>?_
 refine qae (qaa ?_)
 refine qeg (Mid:=fun a_ w_=>∃ (A_:Option Addr) (c_:Nat) (f_:Nat → DV),A_.isNone = Tree.null (Tree.at_ (Tree.mk n1 s2 b3 l4 u5) 6) ∧ LstR w_ (Imm F w w_ [⟨aK,0,[.int .i64 n1,.slice A6 s2.length c7,.bool b3,.slice A8 l4.length c9,.slice ae u5.length af],true⟩,⟨aD,0,[.int .i16 0,.int .i32 0,.int .i32 0,.int .i32 0,.slice none 0 0,.slice none 0 0,.slice none 0 0,.slice none 0 0,.slice none 0 0,.map none],true⟩,⟨aB,0,[.int .i16 (IntKind.i16.wrap ar),.int .i32 (IntKind.i32.wrap au),.int .i32 (IntKind.i32.wrap aa),.int .i32 (IntKind.i32.wrap ab),.slice ag ((lst (Tree.at_ (Tree.mk n1 s2 b3 l4 u5) 4)).length) ah,.slice ai ((lst (Tree.at_ (Tree.mk n1 s2 b3 l4 u5) 5)).length) aj,.slice A_ ((lst (Tree.at_ (Tree.mk n1 s2 b3 l4 u5) 6)).length) c_,.slice none 0 0,.slice none 0 0,.map none],true⟩] []) 1 (fun d=>[.int .i32 d.n]) qdG (fun d t=>d.n = IntKind.i32.wrap t.N) A_ c_ f_ (lst (Tree.at_ (Tree.mk n1 s2 b3 l4 u5) 6)) ∧ LInv aI 186 [⟨aK,0,[.int .i64 n1,.slice A6 s2.length c7,.bool b3,.slice A8 l4.length c9,.slice ae u5.length af],true⟩,⟨aD,0,[.int .i16 0,.int .i32 0,.int .i32 0,.int .i32 0,.slice none 0 0,.slice none 0 0,.slice none 0 0,.slice none 0 0,.slice none 0 0,.map none],true⟩,⟨aB,0,[.int .i16 (IntKind.i16.wrap ar),.int .i32 (IntKind.i32.wrap au),.int .i32 (IntKind.i32.wrap aa),.int .i32 (IntKind.i32.wrap ab),.slice ag ((lst (Tree.at_ (Tree.mk n1 s2 b3 l4 u5) 4)).length) ah,.slice ai ((lst (Tree.at_ (Tree.mk n1 s2 b3 l4 u5) 5)).length) aj,.slice A_ ((lst (Tree.at_ (Tree.mk n1 s2 b3 l4 u5) 6)).length) c_,.slice none 0 0,.slice none 0 0,.map none],true⟩] [] [(1,.p 0 0),(2,.p 1 0),(3,.p 2 0)] a_ w_) ?_ ?_
 ·
  refine qau dD (b:=!eQ) kz (fun dE=>?_) (fun dE=>?_)
  ·
   have hnull_:Tree.null (Tree.at_ (Tree.mk n1 s2 b3 l4 u5) 6) = false:=by rw [fG]; show eQ = false; simpa using dE
   refine qad [0,1,2,3,4,5,6] kz ?_
   refine qak [0] [1,2,3,4,5,6] [(1,.p 0 0),(2,.p 1 0),(3,.p 2 0),(94,.v (.agg #[.int .i64 n1,.slice A6 s2.length c7,.bool b3,.slice A8 l4.length c9,.slice ae u5.length af]))] aI dD fun vD kO=>?_
   refine qah (qai kO (f:=29) (vs:=[.agg #[.int .i64 n1,.slice A6 s2.length c7,.bool b3,.slice A8 l4.length c9,.slice ae u5.length af],.int .i64 6]) (d:=95) kz Tryz.call29 (iAt _ _ 6 _ _ (ht.move aI.step nilM aI.imm)) ?_)
   rintro e_ vE ⟨pR,rfl,kP,bH⟩
   have fH:=kP.move bH nilM (fun b o h_ hb_=>aI.laid (G:=F) bH b o (.inl h_) (Nat.lt_of_lt_of_le hb_ bH.size))
   obtain ⟨vF,vG,vH,bU,vI,vJ,vK,vL,vM,vN,vO,pS,kQ,dF,nK,nL,vP,vQ⟩:=fH.open_
   rw [dF] at fH
   have nM:=nK.small
   have nN:=nL.small
   rw [dF]
   refine ⟨_,rfl,fun vR kR=>?_⟩
   have fI:=aI.next_nil bH
   have kS:=aI.frN bH
   have hl3_:lst (Tree.at_ (Tree.mk n1 s2 b3 l4 u5) 6) = bU:=by rw [qc5 hnull_,kQ]; rfl
   have pT:bU.length ≤ 1000000:=by have h_:=cj6; rw [hl3_] at h_; exact h_
   refine qak [2,3] [4,5,6] [(1,.p 0 0),(2,.p 1 0),(3,.p 2 0),(97,.v (.int .i64 ((bU.length:Nat):Int)))] fI kR fun vS kT=>?_
   refine qah (qcn fI kT (d:=98) (j:=bU.length) (t:=88) (e:=21) (size:=1) (bytes:=4) kz kz rfl (rfl) (by omega) fun gy vT vU pU pV kU fJ kV=>?_)
   refine qak [5] [6] [(1,.p 0 0),(2,.p 1 0),(3,.p 2 0),(98,.v (.slice (some ⟨gy,0,none⟩) 0 bU.length)),(99,.p 2 6)] fJ kV fun vV kW=>?_
   refine qah (qaj fJ kW (oi:=2) (cs:=[.int .i16 (IntKind.i16.wrap ar),.int .i32 (IntKind.i32.wrap au),.int .i32 (IntKind.i32.wrap aa),.int .i32 (IntKind.i32.wrap ab),.slice ag ((lst (Tree.at_ (Tree.mk n1 s2 b3 l4 u5) 4)).length) ah,.slice ai ((lst (Tree.at_ (Tree.mk n1 s2 b3 l4 u5) 5)).length) aj,.slice (some ⟨gy,0,none⟩) 0 bU.length,.slice none 0 0,.slice none 0 0,.map none]) kz fun vW kX bi kY=>?_)
   refine qae (qaa ?_)
   refine qad [0,1,2,3,4] kz ?_
   refine qak [0] [1,2,3,4] [(1,.p 0 0),(2,.p 1 0),(3,.p 2 0),(100,.v (.agg #[.int .i64 n1,.slice A6 s2.length c7,.bool b3,.slice A8 l4.length c9,.slice ae u5.length af]))] bi kY fun vX kZ=>?_
   refine qah (qai kZ (f:=29) (vs:=[.agg #[.int .i64 n1,.slice A6 s2.length c7,.bool b3,.slice A8 l4.length c9,.slice ae u5.length af],.int .i64 6]) (d:=101) kz Tryz.call29 (iAt _ _ 6 _ _ (ht.move bi.step nilM bi.imm)) ?_)
   rintro e_ vY ⟨pW,rfl,k6,bI⟩
   have fK:=k6.move bI nilM (fun b o h_ hb_=>bi.laid (G:=F) bI b o (.inl h_) (Nat.lt_of_lt_of_le hb_ bI.size))
   obtain ⟨vZ,v2,v6,am,v7,v8,wa,bJ,bV,wb,wc,pX,k7,dG,nO,k8,nP,wd⟩:=fK.open_
   rw [dG] at fK
   have nQ:=nO.small
   have nR:=k8.small
   rw [dG]
   refine ⟨_,rfl,fun we k9=>?_⟩
   have dH:=bi.next_nil bI
   have la:=bi.frN bI
   have hl3_:lst (Tree.at_ (Tree.mk n1 s2 b3 l4 u5) 6) = am:=by rw [qc5 hnull_,k7]; rfl
   have pY:am.length ≤ 1000000:=by have h_:=cj6; rw [hl3_] at h_; exact h_
   refine qak [2,3,4] [] [(1,.p 0 0),(2,.p 1 0),(3,.p 2 0),(102,.v (.slice bJ am.length bV)),(103,.v (.int .i64 ((am.length:Nat):Int))),(104,.v (.int .i64 0))] dH k9 fun wg lb=>?_
   refine qae (qaa ?_)
   refine wp_block ?_
   refine wp_loop_ghost (fun n_ a_ w_=>∃ (k:Nat) (A_:Option Addr) (c_:Nat) (xs_:List Value) (ds_:List DV),n_ = am.length - k ∧ k ≤ am.length ∧ (A_.isNone = false) ∧ (RowL w_ (Imm F w w_ [⟨aK,0,[.int .i64 n1,.slice A6 s2.length c7,.bool b3,.slice A8 l4.length c9,.slice ae u5.length af],true⟩,⟨aD,0,[.int .i16 0,.int .i32 0,.int .i32 0,.int .i32 0,.slice none 0 0,.slice none 0 0,.slice none 0 0,.slice none 0 0,.slice none 0 0,.map none],true⟩,⟨aB,0,[.int .i16 (IntKind.i16.wrap ar),.int .i32 (IntKind.i32.wrap au),.int .i32 (IntKind.i32.wrap aa),.int .i32 (IntKind.i32.wrap ab),.slice ag ((lst (Tree.at_ (Tree.mk n1 s2 b3 l4 u5) 4)).length) ah,.slice ai ((lst (Tree.at_ (Tree.mk n1 s2 b3 l4 u5) 5)).length) aj,.slice A_ k c_,.slice none 0 0,.slice none 0 0,.map none],true⟩] [⟨A_,c_,21,1,k,xs_⟩]) 1 (fun d=>[.int .i32 d.n]) qdG (fun d t=>d.n = IntKind.i32.wrap t.N) xs_ ds_ (am.take k)) ∧ LInv dH 186 [⟨aK,0,[.int .i64 n1,.slice A6 s2.length c7,.bool b3,.slice A8 l4.length c9,.slice ae u5.length af],true⟩,⟨aD,0,[.int .i16 0,.int .i32 0,.int .i32 0,.int .i32 0,.slice none 0 0,.slice none 0 0,.slice none 0 0,.slice none 0 0,.slice none 0 0,.map none],true⟩,⟨aB,0,[.int .i16 (IntKind.i16.wrap ar),.int .i32 (IntKind.i32.wrap au),.int .i32 (IntKind.i32.wrap aa),.int .i32 (IntKind.i32.wrap ab),.slice ag ((lst (Tree.at_ (Tree.mk n1 s2 b3 l4 u5) 4)).length) ah,.slice ai ((lst (Tree.at_ (Tree.mk n1 s2 b3 l4 u5) 5)).length) aj,.slice A_ k c_,.slice none 0 0,.slice none 0 0,.map none],true⟩] [⟨A_,c_,21,1,k,xs_⟩] [(1,.p 0 0),(2,.p 1 0),(3,.p 2 0),(102,.v (.slice bJ am.length bV)),(103,.v (.int .i64 ((am.length:Nat):Int))),(104,.v (.int .i64 ((k:Nat):Int)))] a_ w_) (am.length) ⟨0,(some ⟨gy,0,none⟩),bU.length,[],[],by omega,by omega,rfl,RowL.nil qd2,lb.pk,dH,Fr.refl _ _ _⟩ ?_
   rintro wh wi wj ⟨k,A_,c_,xs_,ds_,pZ,p2,hA,hR,lc,cw,cy⟩
   refine qaz [(1,.p 0 0),(2,.p 1 0),(3,.p 2 0),(102,.v (.slice bJ am.length bV)),(103,.v (.int .i64 ((am.length:Nat):Int))),(104,.v (.int .i64 ((k:Nat):Int))),(105,.v (.bool (decide (((k:Nat):Int) < ((am.length:Nat):Int)))))] cw lc fun wk dI=>?_
   refine wp_seq ?_
   refine qau dI (b:=decide (((k:Nat):Int) < ((am.length:Nat):Int))) kz (fun dJ=>?_) (fun dJ=>?_)
   ·
    have p3:=of_decide_eq_true dJ
    refine wp_skip ?_
    refine qaa ?_
    refine wp_seq ?_
    refine wp_block ?_
    refine qad [0,1,2,3] kz ?_
    obtain ⟨nS,nT,ld,p4,dK⟩:=Slots.get k8 (i:=k) (by omega)
    obtain ⟨nU,fL⟩:∃ x,am[k]? = some x:=⟨_,List.getElem?_eq_getElem (by omega)⟩
    have fM:=nP k nU fL
    obtain ⟨bK,gz,gA,gB,gC,gD,gE,gF,gG,gH,gI,p5,rfl,dL,nV,nW,wl,wm⟩:=fM.open_
    rw [dL] at fM
    have nX:=nV.small
    have nY:=nW.small
    rw [dL] at dK
    refine qah (qaM dI (t:=36) (A:=bJ) (m:=am.length) (q:=((k:Nat):Int)) (d:=106) kz (e:=39) (size:=5) (bytes:=88) kz ld rfl (by omega) fun wn lf=>?_)
    refine qah (qa0 lf (t:=39) (b:=nS) (o:=nT + k * 5) (d:=107) kz (cs:=[.int .i64 bK,.slice gD gz.length gE,.bool gA,.slice gF gB.length gG,.slice gH gC.length gI]) (v:=.agg #[.int .i64 bK,.slice gD gz.length gE,.bool gA,.slice gF gB.length gG,.slice gH gC.length gI]) kz (AtF.move dK cy.step immM cy.to').at_ fun wo lg=>?_)
    refine qah (qaw cw lg (d:=9) (cs:=[.int .i64 0,.slice none 0 0,.bool false,.slice none 0 0,.slice none 0 0]) kz fun wr ws wt p6 p7 dM lh li=>?_)
    refine qah (qaj lh li (oi:=3) (cs:=[.int .i64 bK,.slice gD gz.length gE,.bool gA,.slice gF gB.length gG,.slice gH gC.length gI]) kz fun wv dN fN lj=>?_)
    refine qae (qaa ?_)
    refine qap [0,1,2,3,4,5,6,7,8] kz ?_
    refine qak [0,1,2,3,4] [5,6,7,8] [(1,.p 0 0),(2,.p 1 0),(3,.p 2 0),(102,.v (.slice bJ am.length bV)),(103,.v (.int .i64 ((am.length:Nat):Int))),(104,.v (.int .i64 ((k:Nat):Int))),(109,.v (.slice A_ k c_)),(112,.v (.int .i32 (IntKind.i32.wrap bK)))] fN lj fun ww lm=>?_
    refine qbl fN lm (k:=0) (e:=21) (size:=1) (len:=1) (cs:=[.int .i32 (IntKind.i32.wrap bK)]) (d1:=113) (d:=114) kz (t:=88) (bytes:=4) kz (fun _=>by kernel_rfl) rfl kz (by omega) fun eR eS wx wy dO fO ⟨_,ln⟩=>?_
    refine qak [7] [8] [(1,.p 0 0),(2,.p 1 0),(3,.p 2 0),(102,.v (.slice bJ am.length bV)),(103,.v (.int .i64 ((am.length:Nat):Int))),(104,.v (.int .i64 ((k:Nat):Int))),(114,.v (.slice eR (k + 1) eS)),(115,.p 2 6)] fO ln fun wA lp=>?_
    refine qah (qaj fO lp (oi:=2) (cs:=[.int .i16 (IntKind.i16.wrap ar),.int .i32 (IntKind.i32.wrap au),.int .i32 (IntKind.i32.wrap aa),.int .i32 (IntKind.i32.wrap ab),.slice ag ((lst (Tree.at_ (Tree.mk n1 s2 b3 l4 u5) 4)).length) ah,.slice ai ((lst (Tree.at_ (Tree.mk n1 s2 b3 l4 u5) 5)).length) aj,.slice eR (k + 1) eS,.slice none 0 0,.slice none 0 0,.map none]) kz fun wB dP fP lq=>?_)
    refine qae ?_
    refine qas ?_
    refine qaa ?_
    refine qap [0,1] kz ?_
    refine qak [0,1] [] [(1,.p 0 0),(2,.p 1 0),(3,.p 2 0),(102,.v (.slice bJ am.length bV)),(103,.v (.int .i64 ((am.length:Nat):Int))),(104,.v (.int .i64 (IntKind.i64.wrap (((k:Nat):Int) + 1))))] fP lq fun wC lr=>?_
    refine qae (qaa ?_)
    obtain ⟨fQ,fR,dQ⟩:=fP.cutB lr 3 [⟨aK,0,[.int .i64 n1,.slice A6 s2.length c7,.bool b3,.slice A8 l4.length c9,.slice ae u5.length af],true⟩,⟨aD,0,[.int .i16 0,.int .i32 0,.int .i32 0,.int .i32 0,.slice none 0 0,.slice none 0 0,.slice none 0 0,.slice none 0 0,.slice none 0 0,.map none],true⟩,⟨aB,0,[.int .i16 (IntKind.i16.wrap ar),.int .i32 (IntKind.i32.wrap au),.int .i32 (IntKind.i32.wrap aa),.int .i32 (IntKind.i32.wrap ab),.slice ag ((lst (Tree.at_ (Tree.mk n1 s2 b3 l4 u5) 4)).length) ah,.slice ai ((lst (Tree.at_ (Tree.mk n1 s2 b3 l4 u5) 5)).length) aj,.slice eR (k + 1) eS,.slice none 0 0,.slice none 0 0,.map none],true⟩] [(1,.p 0 0),(2,.p 1 0),(3,.p 2 0),(102,.v (.slice bJ am.length bV)),(103,.v (.int .i64 ((am.length:Nat):Int))),(104,.v (.int .i64 (IntKind.i64.wrap (((k:Nat):Int) + 1))))]
    have ls:IntKind.i64.wrap (((k:Nat):Int) + 1) = ((k + 1:Nat):Int):=qaN (by omega)
    rw [ls] at fQ
    exact ⟨am.length - (k + 1),by omega,k + 1,eR,eS,xs_ ++ [Value.int .i32 (IntKind.i32.wrap bK)],(ds_ ++ [(dvN (IntKind.i32.wrap bK))]),rfl,by omega,qdq fR (k:=0) rfl (by omega),RowL.snoc (d:=(dvN (IntKind.i32.wrap bK))) (hR.move ((((dM.trans dN).trans dO).trans dP).trans dQ).step immM ((((dM.trans dN).trans dO).trans dP).trans dQ).to') fL rfl trivial rfl,fQ.pk,fR,(((((cy.trans dM).trans dN).trans dO).trans dP).trans dQ)⟩
   have p8:=of_decide_eq_false dJ
   refine wp_exit ?_
   refine qar ?_
   refine qar ?_
   refine qaE ?_
   refine qaa ?_
   have hk_:k = (lst (Tree.at_ (Tree.mk n1 s2 b3 l4 u5) 6)).length:=by rw [hl3_]; omega
   subst k
   have hL_:=LstR.of cw (k:=0) (rs':=[]) rfl hR (by rw [hl3_]) (fun d=>qbq kz) (by omega)
   rw [← hl3_] at hL_
   obtain ⟨lu,lv⟩:=cw.cutR 0 []
   exact ⟨_,_,_,by rw [hnull_]; exact hA,hL_,dI.pk,lu,(((((kS.trans kU).trans kX).trans la).trans cy).trans lv)⟩
  refine wp_skip ?_
  refine qaa ?_
  have hn_:Tree.null (Tree.at_ (Tree.mk n1 s2 b3 l4 u5) 6) = true:=by rw [fG]; show eQ = true; simpa using dE
  have hl_:=qfk hn_
  exact ⟨none,0,fun _=>dv0,by rw [hn_]; rfl,by rw [hl_]; exact LstR.nil qd2,by rw [hl_]; exact ⟨dD.pk,aI,Fr.refl _ _ _⟩⟩
 rintro wD wE ⟨ay,aA,nZ,lw,fS,lx,bj,cz⟩
 refine wp_seq ?_
 refine qad [0,1,2,3] kz ?_
 refine qak [0] [1,2,3] [(1,.p 0 0),(2,.p 1 0),(3,.p 2 0),(117,.v (.agg #[.int .i64 n1,.slice A6 s2.length c7,.bool b3,.slice A8 l4.length c9,.slice ae u5.length af]))] bj lx fun wF ly=>?_
 refine qah (qai ly (f:=29) (vs:=[.agg #[.int .i64 n1,.slice A6 s2.length c7,.bool b3,.slice A8 l4.length c9,.slice ae u5.length af],.int .i64 7]) (d:=118) kz Tryz.call29 (iAt _ _ 7 _ _ (ht.move bj.step nilM bj.imm)) ?_)
 rintro e_ wG ⟨p9,rfl,lz,bL⟩
 have fT:=lz.move bL nilM (fun b o h_ hb_=>bj.laid (G:=F) bL b o (.inl h_) (Nat.lt_of_lt_of_le hb_ bL.size))
 obtain ⟨wH,wI,eT,wJ,wK,wM,wN,wO,wP,wQ,wR,qa,fU,dR,n4,n5,wS,wT⟩:=fT.open_
 rw [dR] at fT
 have n8:=n4.small
 have oa:=n5.small
 rw [dR]
 refine ⟨_,rfl,fun wU lA=>?_⟩
 have aJ:=bj.next_nil bL
 have bk:=bj.frN bL
 refine qak [2,3] [] [(1,.p 0 0),(2,.p 1 0),(3,.p 2 0),(120,.v (.bool (!eT)))] aJ lA fun wV dS=>?_
 refine qae (qaa ?_)
 refine qeg (Mid:=fun a_ w_=>∃ (A_:Option Addr) (c_:Nat) (f_:Nat → DV),A_.isNone = Tree.null (Tree.at_ (Tree.mk n1 s2 b3 l4 u5) 7) ∧ LstR w_ (Imm F w w_ [⟨aK,0,[.int .i64 n1,.slice A6 s2.length c7,.bool b3,.slice A8 l4.length c9,.slice ae u5.length af],true⟩,⟨aD,0,[.int .i16 0,.int .i32 0,.int .i32 0,.int .i32 0,.slice none 0 0,.slice none 0 0,.slice none 0 0,.slice none 0 0,.slice none 0 0,.map none],true⟩,⟨aB,0,[.int .i16 (IntKind.i16.wrap ar),.int .i32 (IntKind.i32.wrap au),.int .i32 (IntKind.i32.wrap aa),.int .i32 (IntKind.i32.wrap ab),.slice ag ((lst (Tree.at_ (Tree.mk n1 s2 b3 l4 u5) 4)).length) ah,.slice ai ((lst (Tree.at_ (Tree.mk n1 s2 b3 l4 u5) 5)).length) aj,.slice ay ((lst (Tree.at_ (Tree.mk n1 s2 b3 l4 u5) 6)).length) aA,.slice A_ ((lst (Tree.at_ (Tree.mk n1 s2 b3 l4 u5) 7)).length) c_,.slice none 0 0,.map none],true⟩] []) 1 (fun d=>[.int .i32 d.n]) qdG (fun d t=>d.n = IntKind.i32.wrap t.N) A_ c_ f_ (lst (Tree.at_ (Tree.mk n1 s2 b3 l4 u5) 7)) ∧ LInv aJ 186 [⟨aK,0,[.int .i64 n1,.slice A6 s2.length c7,.bool b3,.slice A8 l4.length c9,.slice ae u5.length af],true⟩,⟨aD,0,[.int .i16 0,.int .i32 0,.int .i32 0,.int .i32 0,.slice none 0 0,.slice none 0 0,.slice none 0 0,.slice none 0 0,.slice none 0 0,.map none],true⟩,⟨aB,0,[.int .i16 (IntKind.i16.wrap ar),.int .i32 (IntKind.i32.wrap au),.int .i32 (IntKind.i32.wrap aa),.int .i32 (IntKind.i32.wrap ab),.slice ag ((lst (Tree.at_ (Tree.mk n1 s2 b3 l4 u5) 4)).length) ah,.slice ai ((lst (Tree.at_ (Tree.mk n1 s2 b3 l4 u5) 5)).length) aj,.slice ay ((lst (Tree.at_ (Tree.mk n1 s2 b3 l4 u5) 6)).length) aA,.slice A_ ((lst (Tree.at_ (Tree.mk n1 s2 b3 l4 u5) 7)).length) c_,.slice none 0 0,.map none],true⟩] [] [(1,.p 0 0),(2,.p 1 0),(3,.p 2 0)] a_ w_) ?_ ?_
 ·
  refine qau dS (b:=!eT) kz (fun dT=>?_) (fun dT=>?_)
  ·
   have hnull_:Tree.null (Tree.at_ (Tree.mk n1 s2 b3 l4 u5) 7) = false:=by rw [fU]; show eT = false; simpa using dT
   refine qad [0,1,2,3,4,5,6] kz ?_
   refine qak [0] [1,2,3,4,5,6] [(1,.p 0 0),(2,.p 1 0),(3,.p 2 0),(121,.v (.agg #[.int .i64 n1,.slice A6 s2.length c7,.bool b3,.slice A8 l4.length c9,.slice ae u5.length af]))] aJ dS fun wW lB=>?_
   refine qah (qai lB (f:=29) (vs:=[.agg #[.int .i64 n1,.slice A6 s2.length c7,.bool b3,.slice A8 l4.length c9,.slice ae u5.length af],.int .i64 7]) (d:=122) kz Tryz.call29 (iAt _ _ 7 _ _ (ht.move aJ.step nilM aJ.imm)) ?_)
   rintro e_ wX ⟨qb,rfl,lC,bM⟩
   have fV:=lC.move bM nilM (fun b o h_ hb_=>aJ.laid (G:=F) bM b o (.inl h_) (Nat.lt_of_lt_of_le hb_ bM.size))
   obtain ⟨wY,wZ,xa,bW,xb,xd,xe,xg,xh,xi,xj,qc,lD,dU,oc,od,xk,xl⟩:=fV.open_
   rw [dU] at fV
   have oe:=oc.small
   have og:=od.small
   rw [dU]
   refine ⟨_,rfl,fun xm lE=>?_⟩
   have fW:=aJ.next_nil bM
   have lF:=aJ.frN bM
   have hl3_:lst (Tree.at_ (Tree.mk n1 s2 b3 l4 u5) 7) = bW:=by rw [qc5 hnull_,lD]; rfl
   have qd:bW.length ≤ 1000000:=by have h_:=cj7; rw [hl3_] at h_; exact h_
   refine qak [2,3] [4,5,6] [(1,.p 0 0),(2,.p 1 0),(3,.p 2 0),(124,.v (.int .i64 ((bW.length:Nat):Int)))] fW lE fun xn lG=>?_
   refine qah (qcn fW lG (d:=125) (j:=bW.length) (t:=88) (e:=21) (size:=1) (bytes:=4) kz kz rfl (rfl) (by omega) fun gJ xo xp qe qf lH fX lI=>?_)
   refine qak [5] [6] [(1,.p 0 0),(2,.p 1 0),(3,.p 2 0),(125,.v (.slice (some ⟨gJ,0,none⟩) 0 bW.length)),(126,.p 2 7)] fX lI fun xq lJ=>?_
   refine qah (qaj fX lJ (oi:=2) (cs:=[.int .i16 (IntKind.i16.wrap ar),.int .i32 (IntKind.i32.wrap au),.int .i32 (IntKind.i32.wrap aa),.int .i32 (IntKind.i32.wrap ab),.slice ag ((lst (Tree.at_ (Tree.mk n1 s2 b3 l4 u5) 4)).length) ah,.slice ai ((lst (Tree.at_ (Tree.mk n1 s2 b3 l4 u5) 5)).length) aj,.slice ay ((lst (Tree.at_ (Tree.mk n1 s2 b3 l4 u5) 6)).length) aA,.slice (some ⟨gJ,0,none⟩) 0 bW.length,.slice none 0 0,.map none]) kz fun xr lK bn lL=>?_)
   refine qae (qaa ?_)
   refine qad [0,1,2,3,4] kz ?_
   refine qak [0] [1,2,3,4] [(1,.p 0 0),(2,.p 1 0),(3,.p 2 0),(127,.v (.agg #[.int .i64 n1,.slice A6 s2.length c7,.bool b3,.slice A8 l4.length c9,.slice ae u5.length af]))] bn lL fun xt lM=>?_
   refine qah (qai lM (f:=29) (vs:=[.agg #[.int .i64 n1,.slice A6 s2.length c7,.bool b3,.slice A8 l4.length c9,.slice ae u5.length af],.int .i64 7]) (d:=128) kz Tryz.call29 (iAt _ _ 7 _ _ (ht.move bn.step nilM bn.imm)) ?_)
   rintro e_ xv ⟨qg,rfl,lN,bN⟩
   have fY:=lN.move bN nilM (fun b o h_ hb_=>bn.laid (G:=F) bN b o (.inl h_) (Nat.lt_of_lt_of_le hb_ bN.size))
   obtain ⟨xw,xx,xy,ao,xz,xB,xC,bO,bX,xD,xE,qh,lO,dV,oh,lP,ol,xF⟩:=fY.open_
   rw [dV] at fY
   have om:=oh.small
   have oq:=lP.small
   rw [dV]
   refine ⟨_,rfl,fun xG lQ=>?_⟩
   have dW:=bn.next_nil bN
   have lR:=bn.frN bN
   have hl3_:lst (Tree.at_ (Tree.mk n1 s2 b3 l4 u5) 7) = ao:=by rw [qc5 hnull_,lO]; rfl
   have qi:ao.length ≤ 1000000:=by have h_:=cj7; rw [hl3_] at h_; exact h_
   refine qak [2,3,4] [] [(1,.p 0 0),(2,.p 1 0),(3,.p 2 0),(129,.v (.slice bO ao.length bX)),(130,.v (.int .i64 ((ao.length:Nat):Int))),(131,.v (.int .i64 0))] dW lQ fun xH lS=>?_
   refine qae (qaa ?_)
   refine wp_block ?_
   refine wp_loop_ghost (fun n_ a_ w_=>∃ (k:Nat) (A_:Option Addr) (c_:Nat) (xs_:List Value) (ds_:List DV),n_ = ao.length - k ∧ k ≤ ao.length ∧ (A_.isNone = false) ∧ (RowL w_ (Imm F w w_ [⟨aK,0,[.int .i64 n1,.slice A6 s2.length c7,.bool b3,.slice A8 l4.length c9,.slice ae u5.length af],true⟩,⟨aD,0,[.int .i16 0,.int .i32 0,.int .i32 0,.int .i32 0,.slice none 0 0,.slice none 0 0,.slice none 0 0,.slice none 0 0,.slice none 0 0,.map none],true⟩,⟨aB,0,[.int .i16 (IntKind.i16.wrap ar),.int .i32 (IntKind.i32.wrap au),.int .i32 (IntKind.i32.wrap aa),.int .i32 (IntKind.i32.wrap ab),.slice ag ((lst (Tree.at_ (Tree.mk n1 s2 b3 l4 u5) 4)).length) ah,.slice ai ((lst (Tree.at_ (Tree.mk n1 s2 b3 l4 u5) 5)).length) aj,.slice ay ((lst (Tree.at_ (Tree.mk n1 s2 b3 l4 u5) 6)).length) aA,.slice A_ k c_,.slice none 0 0,.map none],true⟩] [⟨A_,c_,21,1,k,xs_⟩]) 1 (fun d=>[.int .i32 d.n]) qdG (fun d t=>d.n = IntKind.i32.wrap t.N) xs_ ds_ (ao.take k)) ∧ LInv dW 186 [⟨aK,0,[.int .i64 n1,.slice A6 s2.length c7,.bool b3,.slice A8 l4.length c9,.slice ae u5.length af],true⟩,⟨aD,0,[.int .i16 0,.int .i32 0,.int .i32 0,.int .i32 0,.slice none 0 0,.slice none 0 0,.slice none 0 0,.slice none 0 0,.slice none 0 0,.map none],true⟩,⟨aB,0,[.int .i16 (IntKind.i16.wrap ar),.int .i32 (IntKind.i32.wrap au),.int .i32 (IntKind.i32.wrap aa),.int .i32 (IntKind.i32.wrap ab),.slice ag ((lst (Tree.at_ (Tree.mk n1 s2 b3 l4 u5) 4)).length) ah,.slice ai ((lst (Tree.at_ (Tree.mk n1 s2 b3 l4 u5) 5)).length) aj,.slice ay ((lst (Tree.at_ (Tree.mk n1 s2 b3 l4 u5) 6)).length) aA,.slice A_ k c_,.slice none 0 0,.map none],true⟩] [⟨A_,c_,21,1,k,xs_⟩] [(1,.p 0 0),(2,.p 1 0),(3,.p 2 0),(129,.v (.slice bO ao.length bX)),(130,.v (.int .i64 ((ao.length:Nat):Int))),(131,.v (.int .i64 ((k:Nat):Int)))] a_ w_) (ao.length) ⟨0,(some ⟨gJ,0,none⟩),bW.length,[],[],by omega,by omega,rfl,RowL.nil qd2,lS.pk,dW,Fr.refl _ _ _⟩ ?_
   rintro xI xJ xK ⟨k,A_,c_,xs_,ds_,qj,qk,hA,hR,lT,cA,cB⟩
   refine qaz [(1,.p 0 0),(2,.p 1 0),(3,.p 2 0),(129,.v (.slice bO ao.length bX)),(130,.v (.int .i64 ((ao.length:Nat):Int))),(131,.v (.int .i64 ((k:Nat):Int))),(132,.v (.bool (decide (((k:Nat):Int) < ((ao.length:Nat):Int)))))] cA lT fun xL dX=>?_
   refine wp_seq ?_
   refine qau dX (b:=decide (((k:Nat):Int) < ((ao.length:Nat):Int))) kz (fun dY=>?_) (fun dY=>?_)
   ·
    have ql:=of_decide_eq_true dY
    refine wp_skip ?_
    refine qaa ?_
    refine wp_seq ?_
    refine wp_block ?_
    refine qad [0,1,2,3] kz ?_
    obtain ⟨ot,ou,lU,qm,dZ⟩:=Slots.get lP (i:=k) (by omega)
    obtain ⟨ov,fZ⟩:∃ x,ao[k]? = some x:=⟨_,List.getElem?_eq_getElem (by omega)⟩
    have f0:=ol k ov fZ
    obtain ⟨bP,gK,gL,gM,gN,gO,gP,gQ,gR,gS,gT,qn,rfl,d4,ow,ox,xM,xN⟩:=f0.open_
    rw [d4] at f0
    have oy:=ow.small
    have oz:=ox.small
    rw [d4] at dZ
    refine qah (qaM dX (t:=36) (A:=bO) (m:=ao.length) (q:=((k:Nat):Int)) (d:=133) kz (e:=39) (size:=5) (bytes:=88) kz lU rfl (by omega) fun xO lV=>?_)
    refine qah (qa0 lV (t:=39) (b:=ot) (o:=ou + k * 5) (d:=134) kz (cs:=[.int .i64 bP,.slice gO gK.length gP,.bool gL,.slice gQ gM.length gR,.slice gS gN.length gT]) (v:=.agg #[.int .i64 bP,.slice gO gK.length gP,.bool gL,.slice gQ gM.length gR,.slice gS gN.length gT]) kz (AtF.move dZ cB.step immM cB.to').at_ fun xP lW=>?_)
    refine qah (qaw cA lW (d:=11) (cs:=[.int .i64 0,.slice none 0 0,.bool false,.slice none 0 0,.slice none 0 0]) kz fun xQ xR xS qo qp d5 lX lY=>?_)
    refine qah (qaj lX lY (oi:=3) (cs:=[.int .i64 bP,.slice gO gK.length gP,.bool gL,.slice gQ gM.length gR,.slice gS gN.length gT]) kz fun xT d6 f5 lZ=>?_)
    refine qae (qaa ?_)
    refine qap [0,1,2,3,4,5,6,7,8] kz ?_
    refine qak [0,1,2,3,4] [5,6,7,8] [(1,.p 0 0),(2,.p 1 0),(3,.p 2 0),(129,.v (.slice bO ao.length bX)),(130,.v (.int .i64 ((ao.length:Nat):Int))),(131,.v (.int .i64 ((k:Nat):Int))),(136,.v (.slice A_ k c_)),(139,.v (.int .i32 (IntKind.i32.wrap bP)))] f5 lZ fun xU l0=>?_
    refine qbl f5 l0 (k:=0) (e:=21) (size:=1) (len:=1) (cs:=[.int .i32 (IntKind.i32.wrap bP)]) (d1:=140) (d:=141) kz (t:=88) (bytes:=4) kz (fun _=>by kernel_rfl) rfl kz (by omega) fun eU eV xV xW d7 f7 ⟨_,l3⟩=>?_
    refine qak [7] [8] [(1,.p 0 0),(2,.p 1 0),(3,.p 2 0),(129,.v (.slice bO ao.length bX)),(130,.v (.int .i64 ((ao.length:Nat):Int))),(131,.v (.int .i64 ((k:Nat):Int))),(141,.v (.slice eU (k + 1) eV)),(142,.p 2 7)] f7 l3 fun xX gU=>?_
    refine qah (qaj f7 gU (oi:=2) (cs:=[.int .i16 (IntKind.i16.wrap ar),.int .i32 (IntKind.i32.wrap au),.int .i32 (IntKind.i32.wrap aa),.int .i32 (IntKind.i32.wrap ab),.slice ag ((lst (Tree.at_ (Tree.mk n1 s2 b3 l4 u5) 4)).length) ah,.slice ai ((lst (Tree.at_ (Tree.mk n1 s2 b3 l4 u5) 5)).length) aj,.slice ay ((lst (Tree.at_ (Tree.mk n1 s2 b3 l4 u5) 6)).length) aA,.slice eU (k + 1) eV,.slice none 0 0,.map none]) kz fun qq bY d8 gV=>?_)
    refine qae ?_
    refine qas ?_
    refine qaa ?_
    refine qap [0,1] kz ?_
    refine qak [0,1] [] [(1,.p 0 0),(2,.p 1 0),(3,.p 2 0),(129,.v (.slice bO ao.length bX)),(130,.v (.int .i64 ((ao.length:Nat):Int))),(131,.v (.int .i64 (IntKind.i64.wrap (((k:Nat):Int) + 1))))] d8 gV fun qr gW=>?_
    refine qae (qaa ?_)
    obtain ⟨d9,ea,bZ⟩:=d8.cutB gW 3 [⟨aK,0,[.int .i64 n1,.slice A6 s2.length c7,.bool b3,.slice A8 l4.length c9,.slice ae u5.length af],true⟩,⟨aD,0,[.int .i16 0,.int .i32 0,.int .i32 0,.int .i32 0,.slice none 0 0,.slice none 0 0,.slice none 0 0,.slice none 0 0,.slice none 0 0,.map none],true⟩,⟨aB,0,[.int .i16 (IntKind.i16.wrap ar),.int .i32 (IntKind.i32.wrap au),.int .i32 (IntKind.i32.wrap aa),.int .i32 (IntKind.i32.wrap ab),.slice ag ((lst (Tree.at_ (Tree.mk n1 s2 b3 l4 u5) 4)).length) ah,.slice ai ((lst (Tree.at_ (Tree.mk n1 s2 b3 l4 u5) 5)).length) aj,.slice ay ((lst (Tree.at_ (Tree.mk n1 s2 b3 l4 u5) 6)).length) aA,.slice eU (k + 1) eV,.slice none 0 0,.map none],true⟩] [(1,.p 0 0),(2,.p 1 0),(3,.p 2 0),(129,.v (.slice bO ao.length bX)),(130,.v (.int .i64 ((ao.length:Nat):Int))),(131,.v (.int .i64 (IntKind.i64.wrap (((k:Nat):Int) + 1))))]
    have gX:IntKind.i64.wrap (((k:Nat):Int) + 1) = ((k + 1:Nat):Int):=qaN (by omega)
    rw [gX] at d9
    exact ⟨ao.length - (k + 1),by omega,k + 1,eU,eV,xs_ ++ [Value.int .i32 (IntKind.i32.wrap bP)],(ds_ ++ [(dvN (IntKind.i32.wrap bP))]),rfl,by omega,qdq ea (k:=0) rfl (by omega),RowL.snoc (d:=(dvN (IntKind.i32.wrap bP))) (hR.move ((((d5.trans d6).trans d7).trans bY).trans bZ).step immM ((((d5.trans d6).trans d7).trans bY).trans bZ).to') fZ rfl trivial rfl,d9.pk,ea,(((((cB.trans d5).trans d6).trans d7).trans bY).trans bZ)⟩
   have oA:=of_decide_eq_false dY
   refine wp_exit ?_
   refine qar ?_
   refine qar ?_
   refine qaE ?_
   refine qaa ?_
   have hk_:k = (lst (Tree.at_ (Tree.mk n1 s2 b3 l4 u5) 7)).length:=by rw [hl3_]; omega
   subst k
   have hL_:=LstR.of cA (k:=0) (rs':=[]) rfl hR (by rw [hl3_]) (fun d=>qbq kz) (by omega)
   rw [← hl3_] at hL_
   obtain ⟨gY,gZ⟩:=cA.cutR 0 []
   exact ⟨_,_,_,by rw [hnull_]; exact hA,hL_,dX.pk,gY,(((((lF.trans lH).trans lK).trans lR).trans cB).trans gZ)⟩
  refine wp_skip ?_
  refine qaa ?_
  have hn_:Tree.null (Tree.at_ (Tree.mk n1 s2 b3 l4 u5) 7) = true:=by rw [fU]; show eT = true; simpa using dT
  have hl_:=qfk hn_
  exact ⟨none,0,fun _=>dv0,by rw [hn_]; rfl,by rw [hl_]; exact LstR.nil qd2,by rw [hl_]; exact ⟨dS.pk,aJ,Fr.refl _ _ _⟩⟩
 rintro qs qt ⟨av,aw,l5,hC,eb,hJ,aL,aM⟩
 refine wp_seq ?_
 refine qad [0,1,2,3] kz ?_
 refine qak [0] [1,2,3] [(1,.p 0 0),(2,.p 1 0),(3,.p 2 0),(144,.v (.agg #[.int .i64 n1,.slice A6 s2.length c7,.bool b3,.slice A8 l4.length c9,.slice ae u5.length af]))] aL hJ fun qu hK=>?_
 refine qah (qai hK (f:=29) (vs:=[.agg #[.int .i64 n1,.slice A6 s2.length c7,.bool b3,.slice A8 l4.length c9,.slice ae u5.length af],.int .i64 8]) (d:=145) kz Tryz.call29 (iAt _ _ 8 _ _ (ht.move aL.step nilM aL.imm)) ?_)
 rintro e_ qv ⟨oB,rfl,hP,aS⟩
 have ec:=hP.move aS nilM (fun b o h_ hb_=>aL.laid (G:=F) aS b o (.inl h_) (Nat.lt_of_lt_of_le hb_ aS.size))
 obtain ⟨qw,qx,cC,qy,qz,qA,qB,qC,qD,qE,qF,oC,ee,cD,l6,l7,qG,qH⟩:=ec.open_
 rw [cD] at ec
 have mn:=l6.small
 have mo:=l7.small
 rw [cD]
 refine ⟨_,rfl,fun qI hX=>?_⟩
 have aC:=aL.next_nil aS
 have aE:=aL.frN aS
 refine qak [2,3] [] [(1,.p 0 0),(2,.p 1 0),(3,.p 2 0),(147,.v (.bool (!cC)))] aC hX fun qJ b0=>?_
 refine qae (qaa ?_)
 refine qeg (Mid:=fun a_ w_=>∃ (A_:Option Addr) (c_:Nat) (f_:Nat → DV),A_.isNone = Tree.null (Tree.at_ (Tree.mk n1 s2 b3 l4 u5) 8) ∧ LstR w_ (Imm F w w_ [⟨aK,0,[.int .i64 n1,.slice A6 s2.length c7,.bool b3,.slice A8 l4.length c9,.slice ae u5.length af],true⟩,⟨aD,0,[.int .i16 0,.int .i32 0,.int .i32 0,.int .i32 0,.slice none 0 0,.slice none 0 0,.slice none 0 0,.slice none 0 0,.slice none 0 0,.map none],true⟩,⟨aB,0,[.int .i16 (IntKind.i16.wrap ar),.int .i32 (IntKind.i32.wrap au),.int .i32 (IntKind.i32.wrap aa),.int .i32 (IntKind.i32.wrap ab),.slice ag ((lst (Tree.at_ (Tree.mk n1 s2 b3 l4 u5) 4)).length) ah,.slice ai ((lst (Tree.at_ (Tree.mk n1 s2 b3 l4 u5) 5)).length) aj,.slice ay ((lst (Tree.at_ (Tree.mk n1 s2 b3 l4 u5) 6)).length) aA,.slice av ((lst (Tree.at_ (Tree.mk n1 s2 b3 l4 u5) 7)).length) aw,.slice A_ ((lst (Tree.at_ (Tree.mk n1 s2 b3 l4 u5) 8)).length) c_,.map none],true⟩] []) 1 (fun d=>[.int .i32 d.n]) qdG (fun d t=>d.n = IntKind.i32.wrap t.N) A_ c_ f_ (lst (Tree.at_ (Tree.mk n1 s2 b3 l4 u5) 8)) ∧ LInv aC 186 [⟨aK,0,[.int .i64 n1,.slice A6 s2.length c7,.bool b3,.slice A8 l4.length c9,.slice ae u5.length af],true⟩,⟨aD,0,[.int .i16 0,.int .i32 0,.int .i32 0,.int .i32 0,.slice none 0 0,.slice none 0 0,.slice none 0 0,.slice none 0 0,.slice none 0 0,.map none],true⟩,⟨aB,0,[.int .i16 (IntKind.i16.wrap ar),.int .i32 (IntKind.i32.wrap au),.int .i32 (IntKind.i32.wrap aa),.int .i32 (IntKind.i32.wrap ab),.slice ag ((lst (Tree.at_ (Tree.mk n1 s2 b3 l4 u5) 4)).length) ah,.slice ai ((lst (Tree.at_ (Tree.mk n1 s2 b3 l4 u5) 5)).length) aj,.slice ay ((lst (Tree.at_ (Tree.mk n1 s2 b3 l4 u5) 6)).length) aA,.slice av ((lst (Tree.at_ (Tree.mk n1 s2 b3 l4 u5) 7)).length) aw,.slice A_ ((lst (Tree.at_ (Tree.mk n1 s2 b3 l4 u5) 8)).length) c_,.map none],true⟩] [] [(1,.p 0 0),(2,.p 1 0),(3,.p 2 0)] a_ w_) ?_ ?_
 ·
  refine qau b0 (b:=!cC) kz (fun b5=>?_) (fun b5=>?_)
  ·
   have hnull_:Tree.null (Tree.at_ (Tree.mk n1 s2 b3 l4 u5) 8) = false:=by rw [ee]; show cC = false; simpa using b5
   refine qad [0,1,2,3,4,5,6] kz ?_
   refine qak [0] [1,2,3,4,5,6] [(1,.p 0 0),(2,.p 1 0),(3,.p 2 0),(148,.v (.agg #[.int .i64 n1,.slice A6 s2.length c7,.bool b3,.slice A8 l4.length c9,.slice ae u5.length af]))] aC b0 fun qK hY=>?_
   refine qah (qai hY (f:=29) (vs:=[.agg #[.int .i64 n1,.slice A6 s2.length c7,.bool b3,.slice A8 l4.length c9,.slice ae u5.length af],.int .i64 8]) (d:=149) kz Tryz.call29 (iAt _ _ 8 _ _ (ht.move aC.step nilM aC.imm)) ?_)
   rintro e_ qL ⟨oD,rfl,hZ,aT⟩
   have ef:=hZ.move aT nilM (fun b o h_ hb_=>aC.laid (G:=F) aT b o (.inl h_) (Nat.lt_of_lt_of_le hb_ aT.size))
   obtain ⟨qM,qN,qO,aU,qP,qQ,qR,qS,qT,qU,qV,oE,ia,cE,l9,ma,qW,qX⟩:=ef.open_
   rw [cE] at ef
   have mp:=l9.small
   have mq:=ma.small
   rw [cE]
   refine ⟨_,rfl,fun qY ib=>?_⟩
   have eg:=aC.next_nil aT
   have ic:=aC.frN aT
   have hl3_:lst (Tree.at_ (Tree.mk n1 s2 b3 l4 u5) 8) = aU:=by rw [qc5 hnull_,ia]; rfl
   have oF:aU.length ≤ 1000000:=by have h_:=cj8; rw [hl3_] at h_; exact h_
   refine qak [2,3] [4,5,6] [(1,.p 0 0),(2,.p 1 0),(3,.p 2 0),(151,.v (.int .i64 ((aU.length:Nat):Int)))] eg ib fun qZ ig=>?_
   refine qah (qcn eg ig (d:=152) (j:=aU.length) (t:=88) (e:=21) (size:=1) (bytes:=4) kz kz rfl (rfl) (by omega) fun eh q0 q4 oG oH ii ei ij=>?_)
   refine qak [5] [6] [(1,.p 0 0),(2,.p 1 0),(3,.p 2 0),(152,.v (.slice (some ⟨eh,0,none⟩) 0 aU.length)),(153,.p 2 8)] ei ij fun q5 ik=>?_
   refine qah (qaj ei ik (oi:=2) (cs:=[.int .i16 (IntKind.i16.wrap ar),.int .i32 (IntKind.i32.wrap au),.int .i32 (IntKind.i32.wrap aa),.int .i32 (IntKind.i32.wrap ab),.slice ag ((lst (Tree.at_ (Tree.mk n1 s2 b3 l4 u5) 4)).length) ah,.slice ai ((lst (Tree.at_ (Tree.mk n1 s2 b3 l4 u5) 5)).length) aj,.slice ay ((lst (Tree.at_ (Tree.mk n1 s2 b3 l4 u5) 6)).length) aA,.slice av ((lst (Tree.at_ (Tree.mk n1 s2 b3 l4 u5) 7)).length) aw,.slice (some ⟨eh,0,none⟩) 0 aU.length,.map none]) kz fun q6 il aN im=>?_)
   refine qae (qaa ?_)
   refine qad [0,1,2,3,4] kz ?_
   refine qak [0] [1,2,3,4] [(1,.p 0 0),(2,.p 1 0),(3,.p 2 0),(154,.v (.agg #[.int .i64 n1,.slice A6 s2.length c7,.bool b3,.slice A8 l4.length c9,.slice ae u5.length af]))] aN im fun q7 io=>?_
   refine qah (qai io (f:=29) (vs:=[.agg #[.int .i64 n1,.slice A6 s2.length c7,.bool b3,.slice A8 l4.length c9,.slice ae u5.length af],.int .i64 8]) (d:=155) kz Tryz.call29 (iAt _ _ 8 _ _ (ht.move aN.step nilM aN.imm)) ?_)
   rintro e_ q8 ⟨oI,rfl,ip,aV⟩
   have ej:=ip.move aV nilM (fun b o h_ hb_=>aN.laid (G:=F) aV b o (.inl h_) (Nat.lt_of_lt_of_le hb_ aV.size))
   obtain ⟨q9,ra,rb,ac,rc,rd,re,aO,aW,rf,rg,oJ,iq,cG,mc,f8,md,rh⟩:=ej.open_
   rw [cG] at ej
   have mr:=mc.small
   have mt:=f8.small
   rw [cG]
   refine ⟨_,rfl,fun ri ir=>?_⟩
   have b6:=aN.next_nil aV
   have iu:=aN.frN aV
   have hl3_:lst (Tree.at_ (Tree.mk n1 s2 b3 l4 u5) 8) = ac:=by rw [qc5 hnull_,iq]; rfl
   have oK:ac.length ≤ 1000000:=by have h_:=cj8; rw [hl3_] at h_; exact h_
   refine qak [2,3,4] [] [(1,.p 0 0),(2,.p 1 0),(3,.p 2 0),(156,.v (.slice aO ac.length aW)),(157,.v (.int .i64 ((ac.length:Nat):Int))),(158,.v (.int .i64 0))] b6 ir fun rj iv=>?_
   refine qae (qaa ?_)
   refine wp_block ?_
   refine wp_loop_ghost (fun n_ a_ w_=>∃ (k:Nat) (A_:Option Addr) (c_:Nat) (xs_:List Value) (ds_:List DV),n_ = ac.length - k ∧ k ≤ ac.length ∧ (A_.isNone = false) ∧ (RowL w_ (Imm F w w_ [⟨aK,0,[.int .i64 n1,.slice A6 s2.length c7,.bool b3,.slice A8 l4.length c9,.slice ae u5.length af],true⟩,⟨aD,0,[.int .i16 0,.int .i32 0,.int .i32 0,.int .i32 0,.slice none 0 0,.slice none 0 0,.slice none 0 0,.slice none 0 0,.slice none 0 0,.map none],true⟩,⟨aB,0,[.int .i16 (IntKind.i16.wrap ar),.int .i32 (IntKind.i32.wrap au),.int .i32 (IntKind.i32.wrap aa),.int .i32 (IntKind.i32.wrap ab),.slice ag ((lst (Tree.at_ (Tree.mk n1 s2 b3 l4 u5) 4)).length) ah,.slice ai ((lst (Tree.at_ (Tree.mk n1 s2 b3 l4 u5) 5)).length) aj,.slice ay ((lst (Tree.at_ (Tree.mk n1 s2 b3 l4 u5) 6)).length) aA,.slice av ((lst (Tree.at_ (Tree.mk n1 s2 b3 l4 u5) 7)).length) aw,.slice A_ k c_,.map none],true⟩] [⟨A_,c_,21,1,k,xs_⟩]) 1 (fun d=>[.int .i32 d.n]) qdG (fun d t=>d.n = IntKind.i32.wrap t.N) xs_ ds_ (ac.take k)) ∧ LInv b6 186 [⟨aK,0,[.int .i64 n1,.slice A6 s2.length c7,.bool b3,.slice A8 l4.length c9,.slice ae u5.length af],true⟩,⟨aD,0,[.int .i16 0,.int .i32 0,.int .i32 0,.int .i32 0,.slice none 0 0,.slice none 0 0,.slice none 0 0,.slice none 0 0,.slice none 0 0,.map none],true⟩,⟨aB,0,[.int .i16 (IntKind.i16.wrap ar),.int .i32 (IntKind.i32.wrap au),.int .i32 (IntKind.i32.wrap aa),.int .i32 (IntKind.i32.wrap ab),.slice ag ((lst (Tree.at_ (Tree.mk n1 s2 b3 l4 u5) 4)).length) ah,.slice ai ((lst (Tree.at_ (Tree.mk n1 s2 b3 l4 u5) 5)).length) aj,.slice ay ((lst (Tree.at_ (Tree.mk n1 s2 b3 l4 u5) 6)).length) aA,.slice av ((lst (Tree.at_ (Tree.mk n1 s2 b3 l4 u5) 7)).length) aw,.slice A_ k c_,.map none],true⟩] [⟨A_,c_,21,1,k,xs_⟩] [(1,.p 0 0),(2,.p 1 0),(3,.p 2 0),(156,.v (.slice aO ac.length aW)),(157,.v (.int .i64 ((ac.length:Nat):Int))),(158,.v (.int .i64 ((k:Nat):Int)))] a_ w_) (ac.length) ⟨0,(some ⟨eh,0,none⟩),aU.length,[],[],by omega,by omega,rfl,RowL.nil qd2,iv.pk,b6,Fr.refl _ _ _⟩ ?_
   rintro rk rl rm ⟨k,A_,c_,xs_,ds_,oL,oM,hA,hR,iw,bp,bq⟩
   refine qaz [(1,.p 0 0),(2,.p 1 0),(3,.p 2 0),(156,.v (.slice aO ac.length aW)),(157,.v (.int .i64 ((ac.length:Nat):Int))),(158,.v (.int .i64 ((k:Nat):Int))),(159,.v (.bool (decide (((k:Nat):Int) < ((ac.length:Nat):Int)))))] bp iw fun rn b8=>?_
   refine wp_seq ?_
   refine qau b8 (b:=decide (((k:Nat):Int) < ((ac.length:Nat):Int))) kz (fun ca=>?_) (fun ca=>?_)
   ·
    have oN:=of_decide_eq_true ca
    refine wp_skip ?_
    refine qaa ?_
    refine wp_seq ?_
    refine wp_block ?_
    refine qad [0,1,2,3] kz ?_
    obtain ⟨me,mf,ix,oO,cH⟩:=Slots.get f8 (i:=k) (by omega)
    obtain ⟨mg,ek⟩:∃ x,ac[k]? = some x:=⟨_,List.getElem?_eq_getElem (by omega)⟩
    have em:=md k mg ek
    obtain ⟨aP,eo,ep,eu,ev,ew,ey,ez,eA,eB,eC,oP,rfl,cI,mh,mi,ro,rp⟩:=em.open_
    rw [cI] at em
    have mu:=mh.small
    have mw:=mi.small
    rw [cI] at cH
    refine qah (qaM b8 (t:=36) (A:=aO) (m:=ac.length) (q:=((k:Nat):Int)) (d:=160) kz (e:=39) (size:=5) (bytes:=88) kz ix rfl (by omega) fun rq iy=>?_)
    refine qah (qa0 iy (t:=39) (b:=me) (o:=mf + k * 5) (d:=161) kz (cs:=[.int .i64 aP,.slice ew eo.length ey,.bool ep,.slice ez eu.length eA,.slice eB ev.length eC]) (v:=.agg #[.int .i64 aP,.slice ew eo.length ey,.bool ep,.slice ez eu.length eA,.slice eB ev.length eC]) kz (AtF.move cH bq.step immM bq.to').at_ fun rt iz=>?_)
    refine qah (qaw bp iz (d:=13) (cs:=[.int .i64 0,.slice none 0 0,.bool false,.slice none 0 0,.slice none 0 0]) kz fun ru rv rx oQ oR cb iA iB=>?_)
    refine qah (qaj iA iB (oi:=3) (cs:=[.int .i64 aP,.slice ew eo.length ey,.bool ep,.slice ez eu.length eA,.slice eB ev.length eC]) kz fun ry cc eD iC=>?_)
    refine qae (qaa ?_)
    refine qap [0,1,2,3,4,5,6,7,8] kz ?_
    refine qak [0,1,2,3,4] [5,6,7,8] [(1,.p 0 0),(2,.p 1 0),(3,.p 2 0),(156,.v (.slice aO ac.length aW)),(157,.v (.int .i64 ((ac.length:Nat):Int))),(158,.v (.int .i64 ((k:Nat):Int))),(163,.v (.slice A_ k c_)),(166,.v (.int .i32 (IntKind.i32.wrap aP)))] eD iC fun rz iD=>?_
    refine qbl eD iD (k:=0) (e:=21) (size:=1) (len:=1) (cs:=[.int .i32 (IntKind.i32.wrap aP)]) (d1:=167) (d:=168) kz (t:=88) (bytes:=4) kz (fun _=>by kernel_rfl) rfl kz (by omega) fun cJ cK rA rB cd eE ⟨_,iE⟩=>?_
    refine qak [7] [8] [(1,.p 0 0),(2,.p 1 0),(3,.p 2 0),(156,.v (.slice aO ac.length aW)),(157,.v (.int .i64 ((ac.length:Nat):Int))),(158,.v (.int .i64 ((k:Nat):Int))),(168,.v (.slice cJ (k + 1) cK)),(169,.p 2 8)] eE iE fun rC iF=>?_
    refine qah (qaj eE iF (oi:=2) (cs:=[.int .i16 (IntKind.i16.wrap ar),.int .i32 (IntKind.i32.wrap au),.int .i32 (IntKind.i32.wrap aa),.int .i32 (IntKind.i32.wrap ab),.slice ag ((lst (Tree.at_ (Tree.mk n1 s2 b3 l4 u5) 4)).length) ah,.slice ai ((lst (Tree.at_ (Tree.mk n1 s2 b3 l4 u5) 5)).length) aj,.slice ay ((lst (Tree.at_ (Tree.mk n1 s2 b3 l4 u5) 6)).length) aA,.slice av ((lst (Tree.at_ (Tree.mk n1 s2 b3 l4 u5) 7)).length) aw,.slice cJ (k + 1) cK,.map none]) kz fun rD ce eF iG=>?_)
    refine qae ?_
    refine qas ?_
    refine qaa ?_
    refine qap [0,1] kz ?_
    refine qak [0,1] [] [(1,.p 0 0),(2,.p 1 0),(3,.p 2 0),(156,.v (.slice aO ac.length aW)),(157,.v (.int .i64 ((ac.length:Nat):Int))),(158,.v (.int .i64 (IntKind.i64.wrap (((k:Nat):Int) + 1))))] eF iG fun rE iH=>?_
    refine qae (qaa ?_)
    obtain ⟨eG,eH,cg⟩:=eF.cutB iH 3 [⟨aK,0,[.int .i64 n1,.slice A6 s2.length c7,.bool b3,.slice A8 l4.length c9,.slice ae u5.length af],true⟩,⟨aD,0,[.int .i16 0,.int .i32 0,.int .i32 0,.int .i32 0,.slice none 0 0,.slice none 0 0,.slice none 0 0,.slice none 0 0,.slice none 0 0,.map none],true⟩,⟨aB,0,[.int .i16 (IntKind.i16.wrap ar),.int .i32 (IntKind.i32.wrap au),.int .i32 (IntKind.i32.wrap aa),.int .i32 (IntKind.i32.wrap ab),.slice ag ((lst (Tree.at_ (Tree.mk n1 s2 b3 l4 u5) 4)).length) ah,.slice ai ((lst (Tree.at_ (Tree.mk n1 s2 b3 l4 u5) 5)).length) aj,.slice ay ((lst (Tree.at_ (Tree.mk n1 s2 b3 l4 u5) 6)).length) aA,.slice av ((lst (Tree.at_ (Tree.mk n1 s2 b3 l4 u5) 7)).length) aw,.slice cJ (k + 1) cK,.map none],true⟩] [(1,.p 0 0),(2,.p 1 0),(3,.p 2 0),(156,.v (.slice aO ac.length aW)),(157,.v (.int .i64 ((ac.length:Nat):Int))),(158,.v (.int .i64 (IntKind.i64.wrap (((k:Nat):Int) + 1))))]
    have iI:IntKind.i64.wrap (((k:Nat):Int) + 1) = ((k + 1:Nat):Int):=qaN (by omega)
    rw [iI] at eG
    exact ⟨ac.length - (k + 1),by omega,k + 1,cJ,cK,xs_ ++ [Value.int .i32 (IntKind.i32.wrap aP)],(ds_ ++ [(dvN (IntKind.i32.wrap aP))]),rfl,by omega,qdq eH (k:=0) rfl (by omega),RowL.snoc (d:=(dvN (IntKind.i32.wrap aP))) (hR.move ((((cb.trans cc).trans cd).trans ce).trans cg).step immM ((((cb.trans cc).trans cd).trans ce).trans cg).to') ek rfl trivial rfl,eG.pk,eH,(((((bq.trans cb).trans cc).trans cd).trans ce).trans cg)⟩
   have oS:=of_decide_eq_false ca
   refine wp_exit ?_
   refine qar ?_
   refine qar ?_
   refine qaE ?_
   refine qaa ?_
   have hk_:k = (lst (Tree.at_ (Tree.mk n1 s2 b3 l4 u5) 8)).length:=by rw [hl3_]; omega
   subst k
   have hL_:=LstR.of bp (k:=0) (rs':=[]) rfl hR (by rw [hl3_]) (fun d=>qbq kz) (by omega)
   rw [← hl3_] at hL_
   obtain ⟨iJ,iK⟩:=bp.cutR 0 []
   exact ⟨_,_,_,by rw [hnull_]; exact hA,hL_,b8.pk,iJ,(((((ic.trans ii).trans il).trans iu).trans bq).trans iK)⟩
  refine wp_skip ?_
  refine qaa ?_
  have hn_:Tree.null (Tree.at_ (Tree.mk n1 s2 b3 l4 u5) 8) = true:=by rw [ee]; show cC = true; simpa using b5
  have hl_:=qfk hn_
  exact ⟨none,0,fun _=>dv0,by rw [hn_]; rfl,by rw [hl_]; exact LstR.nil qd2,by rw [hl_]; exact ⟨b0.pk,aC,Fr.refl _ _ _⟩⟩
 rintro rF mj ⟨aQ,aR,ml,iL,eI,iM,aX,aF⟩
 refine wp_seq ?_
 refine qaz [(2,.p 1 0),(3,.p 2 0),(172,.v (.slice ae u5.length af)),(173,.v (.int .i64 ((u5.length:Nat):Int))),(174,.v (.int .i64 0))] aX iM fun rG iN=>?_
 refine wp_block ?_
 have iO:=qgl aX 2 rfl kz
 have iP:=iN.recast 2 (.p 1 0) (.v (.pointer (some ⟨aD,0,none⟩))) rfl rfl trivial
 have iQ:=iP.recast 3 (.p 2 0) (.v (.pointer (some ⟨aB,0,none⟩))) rfl rfl trivial
 have iR:=(iQ.pick (ks:=[2,3,172,173,174]) (env':=[(2,.v (.pointer (some ⟨aD,0,none⟩))),(3,.v (.pointer (some ⟨aB,0,none⟩))),(172,.v (.slice ae u5.length af)),(173,.v (.int .i64 ((u5.length:Nat):Int))),(174,.v (.int .i64 0))]) kz).cutTb 0 kz
 refine wp_loop_ghost (fun q a_ w_=>∃ (j:Nat) (m_:Option Nat),q = u5.length - j ∧ j ≤ u5.length ∧ EnvOk 186 [] [(2,.v (.pointer (some ⟨aD,0,none⟩))),(3,.v (.pointer (some ⟨aB,0,none⟩))),(172,.v (.slice ae u5.length af)),(173,.v (.int .i64 ((u5.length:Nat):Int))),(174,.v (.int .i64 ((j:Nat):Int)))] a_ ∧ TL w mj w_ F aB 9 [.int .i16 (IntKind.i16.wrap ar),.int .i32 (IntKind.i32.wrap au),.int .i32 (IntKind.i32.wrap aa),.int .i32 (IntKind.i32.wrap ab),.slice ag ((lst (Tree.at_ (Tree.mk n1 s2 b3 l4 u5) 4)).length) ah,.slice ai ((lst (Tree.at_ (Tree.mk n1 s2 b3 l4 u5) 5)).length) aj,.slice ay ((lst (Tree.at_ (Tree.mk n1 s2 b3 l4 u5) 6)).length) aA,.slice av ((lst (Tree.at_ (Tree.mk n1 s2 b3 l4 u5) 7)).length) aw,.slice aQ ((lst (Tree.at_ (Tree.mk n1 s2 b3 l4 u5) 8)).length) aR,.map none] m_ (u5.take j)) u5.length
  ⟨0,none,by omega,by omega,iR,TL.start aX 2 rfl rfl⟩ ?_
 rintro q aq wq ⟨j,m_,rfl,hj,hE2,hT⟩
 have hWq:=WOk.start wq Nil
 refine qaz [(2,.v (.pointer (some ⟨aD,0,none⟩))),(3,.v (.pointer (some ⟨aB,0,none⟩))),(172,.v (.slice ae u5.length af)),(173,.v (.int .i64 ((u5.length:Nat):Int))),(174,.v (.int .i64 ((j:Nat):Int))),(175,.v (.bool (decide (((j:Nat):Int) < ((u5.length:Nat):Int)))))] hWq hE2 fun aq2 hE3=>wp_seq ?_
 refine qau hE3 (b:=decide (((j:Nat):Int) < ((u5.length:Nat):Int))) kz (fun hc=>?_) (fun hc=>?_)
 ·have hlt:j < u5.length:=by have:=of_decide_eq_true hc; omega
  refine wp_skip (qaa (wp_seq (wp_block ?_)))
  obtain ⟨⟨k,x⟩,hu⟩:∃ y,u5[j]? = some y:=⟨_,List.getElem?_eq_getElem hlt⟩
  obtain ⟨bb,bo,xA,xc,hA,hat,hxo,hk⟩:=qgk oU hu
  refine qad [0,1,2,3] kz ?_
  refine qah (qaM hE3 (t:=37) (e:=65) (size:=2) (bytes:=32) (d:=176) (b:=bb) (o:=bo) (m:=u5.length) (j:=j) kz kz hA rfl hlt fun aq3 hE4=>?_)
  refine qah (qa0 hE4 (t:=65) (d:=177) (cs:=[.int .u32 k,.slice xA x.length xc]) (v:=.agg #[.int .u32 k,.slice xA x.length xc]) kz kz (hat.step_nil hT.step) fun aq4 hE5=>?_)
  refine qah (qaw hWq hE5 (d:=15) (cs:=[.int .u32 0,.slice none 0 0]) kz fun bx aq5 wq2 hbx hbx0 hFq2 hWq2 hE6=>?_)
  refine qah (qaj hWq2 hE6 (oi:=0) (cs:=[.int .u32 k,.slice xA x.length xc]) kz fun wq3 hFq3 hWq3 hE7=>qae (qaa ?_))
  refine qap [0,1,2,3,4,5] kz (qak [0,1,2,3,4] [5] [(2,.v (.pointer (some ⟨aD,0,none⟩))),(3,.v (.pointer (some ⟨aB,0,none⟩))),(172,.v (.slice ae u5.length af)),(173,.v (.int .i64 ((u5.length:Nat):Int))),(174,.v (.int .i64 ((j:Nat):Int))),(178,.v (.pointer (some ⟨aB,9,none⟩))),(180,.v (.int .u32 k)),(182,.v (.slice xA x.length xc))] hWq3 hE7 fun aq6 hE8=>?_)
  refine qah (qai hE8 (f:=32) (vs:=[.pointer (some ⟨aB,9,none⟩),.int .u32 k,.slice xA x.length xc]) (d:=183) kz Tryz.call32 ((hT.move hWq3.step).set iO kz hsort hu hxo hk) ?_)
  rintro e_ wq5 ⟨rfl,hS5,r,hT5⟩
  refine ⟨_,rfl,fun aq7 hE9=>qae (qas (qaa ?_))⟩
  have oT:=(hE9.pick (ks:=[2,3,172,173,174]) (env':=[(2,.v (.pointer (some ⟨aD,0,none⟩))),(3,.v (.pointer (some ⟨aB,0,none⟩))),(172,.v (.slice ae u5.length af)),(173,.v (.int .i64 ((u5.length:Nat):Int))),(174,.v (.int .i64 ((j:Nat):Int)))]) kz).cutTb 0 kz
  refine qap [0,1] kz (qak [0,1] [] [(2,.v (.pointer (some ⟨aD,0,none⟩))),(3,.v (.pointer (some ⟨aB,0,none⟩))),(172,.v (.slice ae u5.length af)),(173,.v (.int .i64 ((u5.length:Nat):Int))),(174,.v (.int .i64 (IntKind.i64.wrap (((j:Nat):Int) + 1))))] (WOk.start wq5 Nil) oT fun aq8 mm=>qae (qaa ?_))
  rw [qaN (by omega)] at mm
  exact ⟨u5.length - (j + 1),by omega,j + 1,some r,rfl,by omega,mm,hT5⟩
 obtain rfl:j = u5.length:=by have:=of_decide_eq_false hc; omega
 refine wp_exit (qar (qar (qaE ?_)))
 rw [List.take_length] at hT
 obtain ⟨cl,ax⟩:=hT.tab aX 2 [⟨aK,0,[.int .i64 n1,.slice A6 s2.length c7,.bool b3,.slice A8 l4.length c9,.slice ae u5.length af],true⟩,⟨aD,0,[.int .i16 0,.int .i32 0,.int .i32 0,.int .i32 0,.slice none 0 0,.slice none 0 0,.slice none 0 0,.slice none 0 0,.slice none 0 0,.map none],true⟩,⟨aB,0,[.int .i16 (IntKind.i16.wrap ar),.int .i32 (IntKind.i32.wrap au),.int .i32 (IntKind.i32.wrap aa),.int .i32 (IntKind.i32.wrap ab),.slice ag ((lst (Tree.at_ (Tree.mk n1 s2 b3 l4 u5) 4)).length) ah,.slice ai ((lst (Tree.at_ (Tree.mk n1 s2 b3 l4 u5) 5)).length) aj,.slice ay ((lst (Tree.at_ (Tree.mk n1 s2 b3 l4 u5) 6)).length) aA,.slice av ((lst (Tree.at_ (Tree.mk n1 s2 b3 l4 u5) 7)).length) aw,.slice aQ ((lst (Tree.at_ (Tree.mk n1 s2 b3 l4 u5) 8)).length) aR,.map m_],true⟩] rfl
 have iS:=hT.mapImm aX cl ax hsort (qdP oU)
 have iT:=(hE3.retable [⟨aK,0,[.int .i64 n1,.slice A6 s2.length c7,.bool b3,.slice A8 l4.length c9,.slice ae u5.length af],true⟩,⟨aD,0,[.int .i16 0,.int .i32 0,.int .i32 0,.int .i32 0,.slice none 0 0,.slice none 0 0,.slice none 0 0,.slice none 0 0,.slice none 0 0,.map none],true⟩,⟨aB,0,[.int .i16 (IntKind.i16.wrap ar),.int .i32 (IntKind.i32.wrap au),.int .i32 (IntKind.i32.wrap aa),.int .i32 (IntKind.i32.wrap ab),.slice ag ((lst (Tree.at_ (Tree.mk n1 s2 b3 l4 u5) 4)).length) ah,.slice ai ((lst (Tree.at_ (Tree.mk n1 s2 b3 l4 u5) 5)).length) aj,.slice ay ((lst (Tree.at_ (Tree.mk n1 s2 b3 l4 u5) 6)).length) aA,.slice av ((lst (Tree.at_ (Tree.mk n1 s2 b3 l4 u5) 7)).length) aw,.slice aQ ((lst (Tree.at_ (Tree.mk n1 s2 b3 l4 u5) 8)).length) aR,.map m_],true⟩]).recast 2 (.v (.pointer (some ⟨aD,0,none⟩))) (.p 1 0) rfl rfl (Nat.le_of_ble_eq_true (n:=2) rfl)
 have iU:=iT.recast 3 (.v (.pointer (some ⟨aB,0,none⟩))) (.p 2 0) rfl rfl (Nat.le_of_ble_eq_true (n:=3) rfl)
 have iV:EnvOk 186 [⟨aK,0,[.int .i64 n1,.slice A6 s2.length c7,.bool b3,.slice A8 l4.length c9,.slice ae u5.length af],true⟩,⟨aD,0,[.int .i16 0,.int .i32 0,.int .i32 0,.int .i32 0,.slice none 0 0,.slice none 0 0,.slice none 0 0,.slice none 0 0,.slice none 0 0,.map none],true⟩,⟨aB,0,[.int .i16 (IntKind.i16.wrap ar),.int .i32 (IntKind.i32.wrap au),.int .i32 (IntKind.i32.wrap aa),.int .i32 (IntKind.i32.wrap ab),.slice ag ((lst (Tree.at_ (Tree.mk n1 s2 b3 l4 u5) 4)).length) ah,.slice ai ((lst (Tree.at_ (Tree.mk n1 s2 b3 l4 u5) 5)).length) aj,.slice ay ((lst (Tree.at_ (Tree.mk n1 s2 b3 l4 u5) 6)).length) aA,.slice av ((lst (Tree.at_ (Tree.mk n1 s2 b3 l4 u5) 7)).length) aw,.slice aQ ((lst (Tree.at_ (Tree.mk n1 s2 b3 l4 u5) 8)).length) aR,.map m_],true⟩] [(2,.p 1 0),(3,.p 2 0)] _:=iU.pk
 refine qaa ?_
 refine qad [0,1] kz ?_
 refine qak [0] [1] [(2,.p 1 0),(185,.v (.agg #[.int .i16 (IntKind.i16.wrap ar),.int .i32 (IntKind.i32.wrap au),.int .i32 (IntKind.i32.wrap aa),.int .i32 (IntKind.i32.wrap ab),.slice ag ((lst (Tree.at_ (Tree.mk n1 s2 b3 l4 u5) 4)).length) ah,.slice ai ((lst (Tree.at_ (Tree.mk n1 s2 b3 l4 u5) 5)).length) aj,.slice ay ((lst (Tree.at_ (Tree.mk n1 s2 b3 l4 u5) 6)).length) aA,.slice av ((lst (Tree.at_ (Tree.mk n1 s2 b3 l4 u5) 7)).length) aw,.slice aQ ((lst (Tree.at_ (Tree.mk n1 s2 b3 l4 u5) 8)).length) aR,.map m_]))] cl iV fun rH iW=>?_
 refine qah (qaj cl iW (oi:=1) (cs:=[.int .i16 (IntKind.i16.wrap ar),.int .i32 (IntKind.i32.wrap au),.int .i32 (IntKind.i32.wrap aa),.int .i32 (IntKind.i32.wrap ab),.slice ag ((lst (Tree.at_ (Tree.mk n1 s2 b3 l4 u5) 4)).length) ah,.slice ai ((lst (Tree.at_ (Tree.mk n1 s2 b3 l4 u5) 5)).length) aj,.slice ay ((lst (Tree.at_ (Tree.mk n1 s2 b3 l4 u5) 6)).length) aA,.slice av ((lst (Tree.at_ (Tree.mk n1 s2 b3 l4 u5) 7)).length) aw,.slice aQ ((lst (Tree.at_ (Tree.mk n1 s2 b3 l4 u5) 8)).length) aR,.map m_]) kz fun rI ap eJ iX=>?_)
 refine qae (qaa ?_)
 refine wp_ret ?_
 refine qaV iX eJ.cells (v:=.agg #[.int .i16 (IntKind.i16.wrap ar),.int .i32 (IntKind.i32.wrap au),.int .i32 (IntKind.i32.wrap aa),.int .i32 (IntKind.i32.wrap ab),.slice ag ((lst (Tree.at_ (Tree.mk n1 s2 b3 l4 u5) 4)).length) ah,.slice ai ((lst (Tree.at_ (Tree.mk n1 s2 b3 l4 u5) 5)).length) aj,.slice ay ((lst (Tree.at_ (Tree.mk n1 s2 b3 l4 u5) 6)).length) aA,.slice av ((lst (Tree.at_ (Tree.mk n1 s2 b3 l4 u5) 7)).length) aw,.slice aQ ((lst (Tree.at_ (Tree.mk n1 s2 b3 l4 u5) 8)).length) aR,.map m_]) kz ?_
 refine ⟨dvP m_ u5 [dvN (IntKind.i16.wrap ar),dvN (IntKind.i32.wrap au),dvN (IntKind.i32.wrap aa),dvN (IntKind.i32.wrap ab),dvL ag (lst (Tree.at_ (Tree.mk n1 s2 b3 l4 u5) 4)).length ah ni,dvL ai (lst (Tree.at_ (Tree.mk n1 s2 b3 l4 u5) 5)).length aj nF,dvL ay (lst (Tree.at_ (Tree.mk n1 s2 b3 l4 u5) 6)).length aA nZ,dvL av (lst (Tree.at_ (Tree.mk n1 s2 b3 l4 u5) 7)).length aw l5,dvL aQ (lst (Tree.at_ (Tree.mk n1 s2 b3 l4 u5) 8)).length aR ml],rfl,?_,?_,eJ.step⟩
 ·unfold qav
  exact ⟨trivial,trivial,trivial,trivial,⟨((fm.move (((((((((fq.trans fE).trans cv).trans cz).trans bk).trans aM).trans aE).trans aF).trans ax).trans ap).step immM (((((((((fq.trans fE).trans cv).trans cz).trans bk).trans aM).trans aE).trans aF).trans ax).trans ap).to').move (Step.refl _ Nil) nilM qcf).slots,cj4,fun _ _=>trivial⟩,⟨((fD.move (((((((cv.trans cz).trans bk).trans aM).trans aE).trans aF).trans ax).trans ap).step immM (((((((cv.trans cz).trans bk).trans aM).trans aE).trans aF).trans ax).trans ap).to').move (Step.refl _ Nil) nilM qcf).slots,cj5,fun _ _=>trivial⟩,⟨((fS.move (((((bk.trans aM).trans aE).trans aF).trans ax).trans ap).step immM (((((bk.trans aM).trans aE).trans aF).trans ax).trans ap).to').move (Step.refl _ Nil) nilM qcf).slots,cj6,fun _ _=>trivial⟩,⟨((eb.move (((aE.trans aF).trans ax).trans ap).step immM (((aE.trans aF).trans ax).trans ap).to').move (Step.refl _ Nil) nilM qcf).slots,cj7,fun _ _=>trivial⟩,⟨((eI.move (ax.trans ap).step immM (ax.trans ap).to').move (Step.refl _ Nil) nilM qcf).slots,cj8,fun _ _=>trivial⟩,((iS.move ap.step immM ap.to').move (Step.refl _ Nil) nilM qcf),cU.2.1,cU.2.2,trivial⟩
 unfold qaD
 exact ⟨by rw [mE]; rfl,by rw [i7]; rfl,by rw [jf]; rfl,by rw [jl]; rfl,⟨jZ,rfl,fm.rel_⟩,⟨kJ,rfl,fD.rel_⟩,⟨lw,rfl,fS.rel_⟩,⟨hC,rfl,eb.rel_⟩,⟨iL,rfl,eI.rel_⟩,rfl,trivial⟩
set_option maxHeartbeats 4000000 in
theorem qch (ct:List Value) (t:Tree) (w:World) (F:Nat → Nat → Prop) (ht:TreeR w F ct t) (hc:qaW t) :
  Calls Tryz.prog 30 #[.agg ct.toArray] w (fun e w'=>∃ D:DV,e = .returned (.agg #[.int .i16 ((D.f 0).n),.pointer ((D.f 1).A),qac ((D.f 2).o.getD 0 0),qac ((D.f 2).o.getD 1 0),qac ((D.f 2).o.getD 2 0),qac ((D.f 2).o.getD 3 0),qac ((D.f 2).o.getD 4 0),qac ((D.f 2).o.getD 5 0),qac ((D.f 2).o.getD 6 0),qac ((D.f 2).o.getD 7 0),qac ((D.f 2).o.getD 8 0),qac ((D.f 2).o.getD 9 0),qac ((D.f 2).o.getD 10 0),qac ((D.f 2).o.getD 11 0),qac ((D.f 2).o.getD 12 0),qac ((D.f 2).o.getD 13 0),qac ((D.f 2).o.getD 14 0),qac ((D.f 2).o.getD 15 0),.bool ((D.f 3).b),.slice ((D.f 4).A) ((D.f 4).l) ((D.f 4).c),.int .i32 ((D.f 5).n),.map D.m]) ∧ qaC w' (Fp F w) D ∧ qaO D t ∧ Step w w' Nil):=by
 obtain ⟨n1,s2,b3,l4,u5,A6,c7,A8,c9,ag,ah,gk,rfl,rfl,gl,gm,ko,fG⟩:=ht.open_
 have fH:=gl.small
 have fI:=gm.small
 unfold qaW at hc
 obtain ⟨cj0,cj1,cj2,cj3,⟨cj4,cj4e⟩,cj5,cU,_⟩:=hc
 have hsort:=cU.1
 replace hsort:qcV u5:=hsort
 have hul:u5.length ≤ 1000000:=cU.2.1
 refine enter (n:=74) Tryz.func30 rfl Tryz.ntmps30 kz fun a hE=>?_
 have hW:=WOk.start w Nil
 refine qad [0,1] kz ?_
 refine qah (qa9 hW hE (d:=1) (cs:=[.int .i64 n1,.slice A6 s2.length c7,.bool b3,.slice A8 l4.length c9,.slice ag u5.length ah]) kz fun bY kp kq gn gp gq eI eJ=>?_)
 refine qah (qaw eI eJ (d:=2) (cs:=[.int .i16 0,.pointer none,.int .u8 0,.int .u8 0,.int .u8 0,.int .u8 0,.int .u8 0,.int .u8 0,.int .u8 0,.int .u8 0,.int .u8 0,.int .u8 0,.int .u8 0,.int .u8 0,.int .u8 0,.int .u8 0,.int .u8 0,.int .u8 0,.bool false,.slice none 0 0,.int .i32 0,.map none]) kz fun aU ku kv gt gu gv eK eL=>?_)
 refine qae (qaa ?_)
 refine qad [0] kz ?_
 refine qah (qaw eK eL (d:=3) (cs:=[.int .i16 0,.pointer none,.int .u8 0,.int .u8 0,.int .u8 0,.int .u8 0,.int .u8 0,.int .u8 0,.int .u8 0,.int .u8 0,.int .u8 0,.int .u8 0,.int .u8 0,.int .u8 0,.int .u8 0,.int .u8 0,.int .u8 0,.int .u8 0,.bool false,.slice none 0 0,.int .i32 0,.map none]) kz fun aD kw kx gw gx gy aZ eM=>?_)
 refine qae (qaa ?_)
 refine qad [0,1,2,3,4,5] kz ?_
 refine qak [0] [1,2,3,4,5] [(1,.p 0 0),(2,.p 1 0),(3,.p 2 0),(8,.v (.agg #[.int .i64 n1,.slice A6 s2.length c7,.bool b3,.slice A8 l4.length c9,.slice ag u5.length ah]))] aZ eM fun ky eN=>?_
 refine qah (qai eN (f:=29) (vs:=[.agg #[.int .i64 n1,.slice A6 s2.length c7,.bool b3,.slice A8 l4.length c9,.slice ag u5.length ah],.int .i64 0]) (d:=9) kz Tryz.call29 (iAt _ _ 0 _ _ (ht.move aZ.step nilM aZ.imm)) ?_)
 rintro e_ kA ⟨gz,rfl,eO,bd⟩
 have cN:=eO.move bd nilM (fun b o h_ hb_=>aZ.laid (G:=F) bd b o (.inl h_) (Nat.lt_of_lt_of_le hb_ bd.size))
 obtain ⟨am,kB,kC,kD,kE,kF,kG,kH,kI,kJ,kK,gA,eP,bZ,gB,gC,kL,kM⟩:=cN.open_
 rw [bZ] at cN
 have fJ:=gB.small
 have fK:=gC.small
 rw [bZ]
 refine ⟨_,rfl,fun kN eQ=>?_⟩
 have cO:=aZ.next_nil bd
 have gD:=aZ.frN bd
 refine qak [2,3,4] [5] [(1,.p 0 0),(2,.p 1 0),(3,.p 2 0),(11,.v (.int .i16 (IntKind.i16.wrap am))),(12,.p 2 0)] cO eQ fun kO eR=>?_
 refine qah (qaj cO eR (oi:=2) (cs:=[.int .i16 (IntKind.i16.wrap am),.pointer none,.int .u8 0,.int .u8 0,.int .u8 0,.int .u8 0,.int .u8 0,.int .u8 0,.int .u8 0,.int .u8 0,.int .u8 0,.int .u8 0,.int .u8 0,.int .u8 0,.int .u8 0,.int .u8 0,.int .u8 0,.int .u8 0,.bool false,.slice none 0 0,.int .i32 0,.map none]) kz fun kP gE ba eS=>?_)
 refine qae (qaa ?_)
 refine qad [0,1,2,3,4] kz ?_
 refine qak [0] [1,2,3,4] [(1,.p 0 0),(2,.p 1 0),(3,.p 2 0),(13,.v (.agg #[.int .i64 n1,.slice A6 s2.length c7,.bool b3,.slice A8 l4.length c9,.slice ag u5.length ah]))] ba eS fun kQ eT=>?_
 refine qah (qai eT (f:=29) (vs:=[.agg #[.int .i64 n1,.slice A6 s2.length c7,.bool b3,.slice A8 l4.length c9,.slice ag u5.length ah],.int .i64 1]) (d:=14) kz Tryz.call29 (iAt _ _ 1 _ _ (ht.move ba.step nilM ba.imm)) ?_)
 rintro e_ kR ⟨gF,rfl,eU,bf⟩
 have cL:=eU.move bf nilM (fun b o h_ hb_=>ba.laid (G:=F) bf b o (.inl h_) (Nat.lt_of_lt_of_le hb_ bf.size))
 obtain ⟨gG,gH,gI,gJ,gK,gL,gM,gN,gO,gP,gQ,fL,fM,bg,eV,eW,gR,gS⟩:=cL.open_
 rw [bg] at cL
 have eX:=eV.small
 have eY:=eW.small
 rw [bg]
 refine ⟨_,rfl,fun gT cP=>?_⟩
 have bh:=ba.next_nil bf
 have fN:=ba.frN bf
 refine qah (qai cP (f:=55) (vs:=[.agg #[.int .i64 gG,.slice gL gH.length gM,.bool gI,.slice gN gJ.length gO,.slice gP gK.length gQ]]) (d:=15) kz Tryz.call55 (qkp _ (Tree.at_ (Tree.mk n1 s2 b3 l4 u5) 1) _ _ cL) ?_)
 rintro e_ gU ⟨ae,rfl,cQ,cR,bi⟩
 have cS:∀ ad,ae = some ad → ∃ b o,ad = ⟨b,o,none⟩ ∧ AtF _ _ b o [.string (bs (qdf (Tree.at_ (Tree.mk n1 s2 b3 l4 u5) 1)))]:=fun ad h=>by
   obtain ⟨b,o,g1,g2⟩:=cQ ad h
   exact ⟨b,o,g1,g2.move (Step.refl _ Nil) nilM (bh.laid (G:=F) bi)⟩
 refine ⟨_,rfl,fun gV cT=>?_⟩
 have b0:=bh.next_nil bi
 have fO:=bh.frN bi
 refine qak [3] [4] [(1,.p 0 0),(2,.p 1 0),(3,.p 2 0),(15,.v (.pointer ae)),(16,.p 2 1)] b0 cT fun gW cV=>?_
 refine qah (qaj b0 cV (oi:=2) (cs:=[.int .i16 (IntKind.i16.wrap am),.pointer ae,.int .u8 0,.int .u8 0,.int .u8 0,.int .u8 0,.int .u8 0,.int .u8 0,.int .u8 0,.int .u8 0,.int .u8 0,.int .u8 0,.int .u8 0,.int .u8 0,.int .u8 0,.int .u8 0,.int .u8 0,.int .u8 0,.bool false,.slice none 0 0,.int .i32 0,.map none]) kz fun gX b5 ap cW=>?_)
 refine qae (qaa ?_)
 refine qad [0,1,2,3,4,5] kz ?_
 refine qak [0] [1,2,3,4,5] [(1,.p 0 0),(2,.p 1 0),(3,.p 2 0),(17,.v (.agg #[.int .i64 n1,.slice A6 s2.length c7,.bool b3,.slice A8 l4.length c9,.slice ag u5.length ah]))] ap cW fun gY cX=>?_
 refine qah (qai cX (f:=29) (vs:=[.agg #[.int .i64 n1,.slice A6 s2.length c7,.bool b3,.slice A8 l4.length c9,.slice ag u5.length ah],.int .i64 2]) (d:=18) kz Tryz.call29 (iAt _ _ 2 _ _ (ht.move ap.step nilM ap.imm)) ?_)
 rintro e_ gZ ⟨fP,rfl,cY,aG⟩
 have b6:=cY.move aG nilM (fun b o h_ hb_=>ap.laid (G:=F) aG b o (.inl h_) (Nat.lt_of_lt_of_le hb_ aG.size))
 obtain ⟨hC,aa,hJ,hK,hP,cZ,c5,hX,hY,hZ,ia,fQ,c8,bj,da,eZ,ib,ic⟩:=b6.open_
 rw [bj] at b6
 have e5:=da.small
 have e6:=eZ.small
 rw [bj]
 refine ⟨_,rfl,fun ig db=>?_⟩
 have bk:=ap.next_nil aG
 have b8:=ap.frN aG
 refine qak [2] [3,4,5] [(1,.p 0 0),(2,.p 1 0),(3,.p 2 0),(19,.v (.slice cZ aa.length c5))] bk db fun ii dc=>?_
 refine qah (qai dc (f:=56) (vs:=[.slice cZ aa.length c5]) (d:=20) kz Tryz.call56 (qjK _ _ aa _ _ da) ?_)
 rintro e_ ij ⟨rfl,ca⟩
 refine ⟨_,rfl,fun ik de=>?_⟩
 have cb:=bk.next_nil ca
 have cc:=bk.frN ca
 refine qak [4] [5] [(1,.p 0 0),(2,.p 1 0),(3,.p 2 0),(20,.v (.agg #[qac (aa.getD 0 0),qac (aa.getD 1 0),qac (aa.getD 2 0),qac (aa.getD 3 0),qac (aa.getD 4 0),qac (aa.getD 5 0),qac (aa.getD 6 0),qac (aa.getD 7 0),qac (aa.getD 8 0),qac (aa.getD 9 0),qac (aa.getD 10 0),qac (aa.getD 11 0),qac (aa.getD 12 0),qac (aa.getD 13 0),qac (aa.getD 14 0),qac (aa.getD 15 0)])),(21,.p 2 2)] cb de fun il df=>?_
 refine qah (qaj cb df (oi:=2) (cs:=[.int .i16 (IntKind.i16.wrap am),.pointer ae,qac (aa.getD 0 0),qac (aa.getD 1 0),qac (aa.getD 2 0),qac (aa.getD 3 0),qac (aa.getD 4 0),qac (aa.getD 5 0),qac (aa.getD 6 0),qac (aa.getD 7 0),qac (aa.getD 8 0),qac (aa.getD 9 0),qac (aa.getD 10 0),qac (aa.getD 11 0),qac (aa.getD 12 0),qac (aa.getD 13 0),qac (aa.getD 14 0),qac (aa.getD 15 0),.bool false,.slice none 0 0,.int .i32 0,.map none]) kz fun im cd ar dg=>?_)
 refine qae (qaa ?_)
 refine qad [0,1,2,3,4,5,6] kz ?_
 refine qak [0] [1,2,3,4,5,6] [(1,.p 0 0),(2,.p 1 0),(3,.p 2 0),(22,.v (.agg #[.int .i64 n1,.slice A6 s2.length c7,.bool b3,.slice A8 l4.length c9,.slice ag u5.length ah]))] ar dg fun io dh=>?_
 refine qah (qai dh (f:=29) (vs:=[.agg #[.int .i64 n1,.slice A6 s2.length c7,.bool b3,.slice A8 l4.length c9,.slice ag u5.length ah],.int .i64 3]) (d:=23) kz Tryz.call29 (iAt _ _ 3 _ _ (ht.move ar.step nilM ar.imm)) ?_)
 rintro e_ ip ⟨fR,rfl,di,aH⟩
 have ce:=di.move aH nilM (fun b o h_ hb_=>ar.laid (G:=F) aH b o (.inl h_) (Nat.lt_of_lt_of_le hb_ aH.size))
 obtain ⟨af,iq,ir,iu,iv,iw,ix,iy,iz,iA,iB,fS,dj,bn,e7,e9,iC,iD⟩:=ce.open_
 rw [bn] at ce
 have fa:=e7.small
 have fb:=e9.small
 rw [bn]
 refine ⟨_,rfl,fun iE dl=>?_⟩
 have cg:=ar.next_nil aH
 have cl:=ar.frN aH
 refine qak [2,3,4,5] [6] [(1,.p 0 0),(2,.p 1 0),(3,.p 2 0),(26,.v (.bool ((IntKind.i64.wrap (BitVec.ofInt 64 af &&& BitVec.ofInt 64 1).toNat) == 1))),(27,.p 2 18)] cg dl fun iF dp=>?_
 refine qah (qaj cg dp (oi:=2) (cs:=[.int .i16 (IntKind.i16.wrap am),.pointer ae,qac (aa.getD 0 0),qac (aa.getD 1 0),qac (aa.getD 2 0),qac (aa.getD 3 0),qac (aa.getD 4 0),qac (aa.getD 5 0),qac (aa.getD 6 0),qac (aa.getD 7 0),qac (aa.getD 8 0),qac (aa.getD 9 0),qac (aa.getD 10 0),qac (aa.getD 11 0),qac (aa.getD 12 0),qac (aa.getD 13 0),qac (aa.getD 14 0),qac (aa.getD 15 0),.bool ((IntKind.i64.wrap (BitVec.ofInt 64 af &&& BitVec.ofInt 64 1).toNat) == 1),.slice none 0 0,.int .i32 0,.map none]) kz fun iG cm au dq=>?_)
 refine qae (qaa ?_)
 refine wp_seq ?_
 refine qad [0,1,2,3] kz ?_
 refine qak [0] [1,2,3] [(1,.p 0 0),(2,.p 1 0),(3,.p 2 0),(28,.v (.agg #[.int .i64 n1,.slice A6 s2.length c7,.bool b3,.slice A8 l4.length c9,.slice ag u5.length ah]))] au dq fun iH dr=>?_
 refine qah (qai dr (f:=29) (vs:=[.agg #[.int .i64 n1,.slice A6 s2.length c7,.bool b3,.slice A8 l4.length c9,.slice ag u5.length ah],.int .i64 4]) (d:=29) kz Tryz.call29 (iAt _ _ 4 _ _ (ht.move au.step nilM au.imm)) ?_)
 rintro e_ iI ⟨fT,rfl,dt,aI⟩
 have cq:=dt.move aI nilM (fun b o h_ hb_=>au.laid (G:=F) aI b o (.inl h_) (Nat.lt_of_lt_of_le hb_ aI.size))
 obtain ⟨iJ,iK,bW,iL,iM,iN,iO,iP,iQ,iR,iS,fU,cr,bp,fc,fe,iT,iU⟩:=cq.open_
 rw [bp] at cq
 have ff:=fc.small
 have fg:=fe.small
 rw [bp]
 refine ⟨_,rfl,fun iV du=>?_⟩
 have ai:=au.next_nil aI
 have cu:=au.frN aI
 refine qak [2,3] [] [(1,.p 0 0),(2,.p 1 0),(3,.p 2 0),(31,.v (.bool (!bW)))] ai du fun iW bq=>?_
 refine qae (qaa ?_)
 refine qeg (Mid:=fun a_ w_=>∃ (A_:Option Addr) (c_:Nat) (f_:Nat → DV),A_.isNone = Tree.null (Tree.at_ (Tree.mk n1 s2 b3 l4 u5) 4) ∧ LstR w_ (Imm F w w_ [⟨bY,0,[.int .i64 n1,.slice A6 s2.length c7,.bool b3,.slice A8 l4.length c9,.slice ag u5.length ah],true⟩,⟨aU,0,[.int .i16 0,.pointer none,.int .u8 0,.int .u8 0,.int .u8 0,.int .u8 0,.int .u8 0,.int .u8 0,.int .u8 0,.int .u8 0,.int .u8 0,.int .u8 0,.int .u8 0,.int .u8 0,.int .u8 0,.int .u8 0,.int .u8 0,.int .u8 0,.bool false,.slice none 0 0,.int .i32 0,.map none],true⟩,⟨aD,0,[.int .i16 (IntKind.i16.wrap am),.pointer ae,qac (aa.getD 0 0),qac (aa.getD 1 0),qac (aa.getD 2 0),qac (aa.getD 3 0),qac (aa.getD 4 0),qac (aa.getD 5 0),qac (aa.getD 6 0),qac (aa.getD 7 0),qac (aa.getD 8 0),qac (aa.getD 9 0),qac (aa.getD 10 0),qac (aa.getD 11 0),qac (aa.getD 12 0),qac (aa.getD 13 0),qac (aa.getD 14 0),qac (aa.getD 15 0),.bool ((IntKind.i64.wrap (BitVec.ofInt 64 af &&& BitVec.ofInt 64 1).toNat) == 1),.slice A_ ((lst (Tree.at_ (Tree.mk n1 s2 b3 l4 u5) 4)).length) c_,.int .i32 0,.map none],true⟩] []) 10 qa4 qav qaD A_ c_ f_ (lst (Tree.at_ (Tree.mk n1 s2 b3 l4 u5) 4)) ∧ LInv ai 74 [⟨bY,0,[.int .i64 n1,.slice A6 s2.length c7,.bool b3,.slice A8 l4.length c9,.slice ag u5.length ah],true⟩,⟨aU,0,[.int .i16 0,.pointer none,.int .u8 0,.int .u8 0,.int .u8 0,.int .u8 0,.int .u8 0,.int .u8 0,.int .u8 0,.int .u8 0,.int .u8 0,.int .u8 0,.int .u8 0,.int .u8 0,.int .u8 0,.int .u8 0,.int .u8 0,.int .u8 0,.bool false,.slice none 0 0,.int .i32 0,.map none],true⟩,⟨aD,0,[.int .i16 (IntKind.i16.wrap am),.pointer ae,qac (aa.getD 0 0),qac (aa.getD 1 0),qac (aa.getD 2 0),qac (aa.getD 3 0),qac (aa.getD 4 0),qac (aa.getD 5 0),qac (aa.getD 6 0),qac (aa.getD 7 0),qac (aa.getD 8 0),qac (aa.getD 9 0),qac (aa.getD 10 0),qac (aa.getD 11 0),qac (aa.getD 12 0),qac (aa.getD 13 0),qac (aa.getD 14 0),qac (aa.getD 15 0),.bool ((IntKind.i64.wrap (BitVec.ofInt 64 af &&& BitVec.ofInt 64 1).toNat) == 1),.slice A_ ((lst (Tree.at_ (Tree.mk n1 s2 b3 l4 u5) 4)).length) c_,.int .i32 0,.map none],true⟩] [] [(1,.p 0 0),(2,.p 1 0),(3,.p 2 0)] a_ w_) ?_ ?_
 ·
  refine qau bq (b:=!bW) kz (fun br=>?_) (fun br=>?_)
  ·
   have hnull_:Tree.null (Tree.at_ (Tree.mk n1 s2 b3 l4 u5) 4) = false:=by rw [cr]; show bW = false; simpa using br
   refine qad [0,1,2,3,4,5,6] kz ?_
   refine qak [0] [1,2,3,4,5,6] [(1,.p 0 0),(2,.p 1 0),(3,.p 2 0),(32,.v (.agg #[.int .i64 n1,.slice A6 s2.length c7,.bool b3,.slice A8 l4.length c9,.slice ag u5.length ah]))] ai bq fun iX dv=>?_
   refine qah (qai dv (f:=29) (vs:=[.agg #[.int .i64 n1,.slice A6 s2.length c7,.bool b3,.slice A8 l4.length c9,.slice ag u5.length ah],.int .i64 4]) (d:=33) kz Tryz.call29 (iAt _ _ 4 _ _ (ht.move ai.step nilM ai.imm)) ?_)
   rintro e_ iY ⟨fV,rfl,dw,aJ⟩
   have cv:=dw.move aJ nilM (fun b o h_ hb_=>ai.laid (G:=F) aJ b o (.inl h_) (Nat.lt_of_lt_of_le hb_ aJ.size))
   obtain ⟨iZ,i6,i7,aV,ja,jb,jc,jd,je,jf,jg,fW,dx,bt,fh,fi,jh,ji⟩:=cv.open_
   rw [bt] at cv
   have fj:=fh.small
   have fk:=fi.small
   rw [bt]
   refine ⟨_,rfl,fun jj dy=>?_⟩
   have cw:=ai.next_nil aJ
   have dA:=ai.frN aJ
   have hl3_:lst (Tree.at_ (Tree.mk n1 s2 b3 l4 u5) 4) = aV:=by rw [qc5 hnull_,dx]; rfl
   have fX:aV.length ≤ 1000000:=by have h_:=cj4; rw [hl3_] at h_; exact h_
   refine qak [2,3] [4,5,6] [(1,.p 0 0),(2,.p 1 0),(3,.p 2 0),(35,.v (.int .i64 ((aV.length:Nat):Int)))] cw dy fun jk dB=>?_
   refine qah (qcn cw dB (d:=36) (j:=aV.length) (t:=74) (e:=90) (size:=10) (bytes:=144) kz kz rfl (rfl) (by omega) fun cM jl jm fY fZ dC cy dD=>?_)
   refine qak [5] [6] [(1,.p 0 0),(2,.p 1 0),(3,.p 2 0),(36,.v (.slice (some ⟨cM,0,none⟩) 0 aV.length)),(37,.p 2 19)] cy dD fun jn dE=>?_
   refine qah (qaj cy dE (oi:=2) (cs:=[.int .i16 (IntKind.i16.wrap am),.pointer ae,qac (aa.getD 0 0),qac (aa.getD 1 0),qac (aa.getD 2 0),qac (aa.getD 3 0),qac (aa.getD 4 0),qac (aa.getD 5 0),qac (aa.getD 6 0),qac (aa.getD 7 0),qac (aa.getD 8 0),qac (aa.getD 9 0),qac (aa.getD 10 0),qac (aa.getD 11 0),qac (aa.getD 12 0),qac (aa.getD 13 0),qac (aa.getD 14 0),qac (aa.getD 15 0),.bool ((IntKind.i64.wrap (BitVec.ofInt 64 af &&& BitVec.ofInt 64 1).toNat) == 1),.slice (some ⟨cM,0,none⟩) 0 aV.length,.int .i32 0,.map none]) kz fun jo dF av dG=>?_)
   refine qae (qaa ?_)
   refine qad [0,1,2,3,4] kz ?_
   refine qak [0] [1,2,3,4] [(1,.p 0 0),(2,.p 1 0),(3,.p 2 0),(38,.v (.agg #[.int .i64 n1,.slice A6 s2.length c7,.bool b3,.slice A8 l4.length c9,.slice ag u5.length ah]))] av dG fun jp dH=>?_
   refine qah (qai dH (f:=29) (vs:=[.agg #[.int .i64 n1,.slice A6 s2.length c7,.bool b3,.slice A8 l4.length c9,.slice ag u5.length ah],.int .i64 4]) (d:=39) kz Tryz.call29 (iAt _ _ 4 _ _ (ht.move av.step nilM av.imm)) ?_)
   rintro e_ jq ⟨f0,rfl,dI,aK⟩
   have cz:=dI.move aK nilM (fun b o h_ hb_=>av.laid (G:=F) aK b o (.inl h_) (Nat.lt_of_lt_of_le hb_ aK.size))
   obtain ⟨jr,js,jt,ac,ju,jv,jw,aL,aW,jx,jy,f5,dJ,bu,fl,dK,fm,jz⟩:=cz.open_
   rw [bu] at cz
   have fo:=fl.small
   have fp:=dK.small
   rw [bu]
   refine ⟨_,rfl,fun jA dL=>?_⟩
   have bv:=av.next_nil aK
   have dM:=av.frN aK
   have hl3_:lst (Tree.at_ (Tree.mk n1 s2 b3 l4 u5) 4) = ac:=by rw [qc5 hnull_,dJ]; rfl
   have f7:ac.length ≤ 1000000:=by have h_:=cj4; rw [hl3_] at h_; exact h_
   refine qak [2,3,4] [] [(1,.p 0 0),(2,.p 1 0),(3,.p 2 0),(40,.v (.slice aL ac.length aW)),(41,.v (.int .i64 ((ac.length:Nat):Int))),(42,.v (.int .i64 0))] bv dL fun jB dN=>?_
   refine qae (qaa ?_)
   refine wp_block ?_
   refine wp_loop_ghost (fun n_ a_ w_=>∃ (k:Nat) (A_:Option Addr) (c_:Nat) (xs_:List Value) (ds_:List DV),n_ = ac.length - k ∧ k ≤ ac.length ∧ (A_.isNone = false) ∧ (RowL w_ (Imm F w w_ [⟨bY,0,[.int .i64 n1,.slice A6 s2.length c7,.bool b3,.slice A8 l4.length c9,.slice ag u5.length ah],true⟩,⟨aU,0,[.int .i16 0,.pointer none,.int .u8 0,.int .u8 0,.int .u8 0,.int .u8 0,.int .u8 0,.int .u8 0,.int .u8 0,.int .u8 0,.int .u8 0,.int .u8 0,.int .u8 0,.int .u8 0,.int .u8 0,.int .u8 0,.int .u8 0,.int .u8 0,.bool false,.slice none 0 0,.int .i32 0,.map none],true⟩,⟨aD,0,[.int .i16 (IntKind.i16.wrap am),.pointer ae,qac (aa.getD 0 0),qac (aa.getD 1 0),qac (aa.getD 2 0),qac (aa.getD 3 0),qac (aa.getD 4 0),qac (aa.getD 5 0),qac (aa.getD 6 0),qac (aa.getD 7 0),qac (aa.getD 8 0),qac (aa.getD 9 0),qac (aa.getD 10 0),qac (aa.getD 11 0),qac (aa.getD 12 0),qac (aa.getD 13 0),qac (aa.getD 14 0),qac (aa.getD 15 0),.bool ((IntKind.i64.wrap (BitVec.ofInt 64 af &&& BitVec.ofInt 64 1).toNat) == 1),.slice A_ k c_,.int .i32 0,.map none],true⟩] [⟨A_,c_,90,10,k,xs_⟩]) 10 qa4 qav qaD xs_ ds_ (ac.take k)) ∧ LInv bv 74 [⟨bY,0,[.int .i64 n1,.slice A6 s2.length c7,.bool b3,.slice A8 l4.length c9,.slice ag u5.length ah],true⟩,⟨aU,0,[.int .i16 0,.pointer none,.int .u8 0,.int .u8 0,.int .u8 0,.int .u8 0,.int .u8 0,.int .u8 0,.int .u8 0,.int .u8 0,.int .u8 0,.int .u8 0,.int .u8 0,.int .u8 0,.int .u8 0,.int .u8 0,.int .u8 0,.int .u8 0,.bool false,.slice none 0 0,.int .i32 0,.map none],true⟩,⟨aD,0,[.int .i16 (IntKind.i16.wrap am),.pointer ae,qac (aa.getD 0 0),qac (aa.getD 1 0),qac (aa.getD 2 0),qac (aa.getD 3 0),qac (aa.getD 4 0),qac (aa.getD 5 0),qac (aa.getD 6 0),qac (aa.getD 7 0),qac (aa.getD 8 0),qac (aa.getD 9 0),qac (aa.getD 10 0),qac (aa.getD 11 0),qac (aa.getD 12 0),qac (aa.getD 13 0),qac (aa.getD 14 0),qac (aa.getD 15 0),.bool ((IntKind.i64.wrap (BitVec.ofInt 64 af &&& BitVec.ofInt 64 1).toNat) == 1),.slice A_ k c_,.int .i32 0,.map none],true⟩] [⟨A_,c_,90,10,k,xs_⟩] [(1,.p 0 0),(2,.p 1 0),(3,.p 2 0),(40,.v (.slice aL ac.length aW)),(41,.v (.int .i64 ((ac.length:Nat):Int))),(42,.v (.int .i64 ((k:Nat):Int)))] a_ w_) (ac.length) ⟨0,(some ⟨cM,0,none⟩),aV.length,[],[],by omega,by omega,rfl,RowL.nil qaK,dN.pk,bv,Fr.refl _ _ _⟩ ?_
   rintro jC jD jE ⟨k,A_,c_,xs_,ds_,f8,f9,hA,hR,dO,aX,aw⟩
   refine qaz [(1,.p 0 0),(2,.p 1 0),(3,.p 2 0),(40,.v (.slice aL ac.length aW)),(41,.v (.int .i64 ((ac.length:Nat):Int))),(42,.v (.int .i64 ((k:Nat):Int))),(43,.v (.bool (decide (((k:Nat):Int) < ((ac.length:Nat):Int)))))] aX dO fun jF bw=>?_
   refine wp_seq ?_
   refine qau bw (b:=decide (((k:Nat):Int) < ((ac.length:Nat):Int))) kz (fun bz=>?_) (fun bz=>?_)
   ·
    have ga:=of_decide_eq_true bz
    refine wp_skip ?_
    refine qaa ?_
    refine wp_seq ?_
    refine wp_block ?_
    refine qad [0,1,2,3] kz ?_
    obtain ⟨fq,fr,dP,gb,bA⟩:=Slots.get dK (i:=k) (by omega)
    obtain ⟨ft,bB⟩:∃ x,ac[k]? = some x:=⟨_,List.getElem?_eq_getElem (by omega)⟩
    have bC:=fm k ft bB
    obtain ⟨bD,bE,bF,bG,bH,bI,bJ,bK,bL,bM,bN,gc,rfl,bO,fu,fv,jG,jH⟩:=bC.open_
    rw [bO] at bC
    have fw:=fu.small
    have fx:=fv.small
    rw [bO] at bA
    refine qah (qaM bw (t:=36) (A:=aL) (m:=ac.length) (q:=((k:Nat):Int)) (d:=44) kz (e:=39) (size:=5) (bytes:=88) kz dP rfl (by omega) fun jI dQ=>?_)
    refine qah (qa0 dQ (t:=39) (b:=fq) (o:=fr + k * 5) (d:=45) kz (cs:=[.int .i64 bD,.slice bI bE.length bJ,.bool bF,.slice bK bG.length bL,.slice bM bH.length bN]) (v:=.agg #[.int .i64 bD,.slice bI bE.length bJ,.bool bF,.slice bK bG.length bL,.slice bM bH.length bN]) kz (AtF.move bA aw.step immM aw.to').at_ fun jJ dR=>?_)
    refine qah (qaw aX dR (d:=5) (cs:=[.int .i64 0,.slice none 0 0,.bool false,.slice none 0 0,.slice none 0 0]) kz fun jK jL jM gd ge aM dS dT=>?_)
    refine qah (qaj dS dT (oi:=3) (cs:=[.int .i64 bD,.slice bI bE.length bJ,.bool bF,.slice bK bG.length bL,.slice bM bH.length bN]) kz fun jN aN dU dV=>?_)
    refine qae (qaa ?_)
    refine qcB 7 kz dU fun jO aO bP dW=>?_
    refine qbg [0,1,2] [(1,.p 0 0),(2,.p 1 0),(3,.p 2 0),(40,.v (.slice aL ac.length aW)),(41,.v (.int .i64 ((ac.length:Nat):Int))),(42,.v (.int .i64 ((k:Nat):Int))),(47,.v (.slice A_ k c_)),(48,.v (.agg #[.int .i64 bD,.slice bI bE.length bJ,.bool bF,.slice bK bG.length bL,.slice bM bH.length bN]))] 5 (qaf (qab (qab (qaf (qab qal))))) (fun _ h=>h.cells) dW dV fun jP dX=>?_
    refine qaH (i:=3) kz (qai dX (f:=57) (vs:=[.agg #[.int .i64 bD,.slice bI bE.length bJ,.bool bF,.slice bK bG.length bL,.slice bM bH.length bN]]) (d:=49) kz Tryz.call57 (qbK _ _ _ _ (bC.move (((aw.trans aM).trans aN).trans aO).step immM (((aw.trans aM).trans aN).trans aO).to') (cj4e _ (by rw [hl3_]; exact List.mem_of_getElem? bB))) ?_)
    rintro e_ jQ ⟨ab,rfl,dY,bX,bQ⟩
    have dZ:=qaK _ (Step.refl _ Nil) nilM (bP.laid (G:=F) bQ) dY
    refine ⟨_,rfl,fun jR d4=>?_⟩
    have cA:=bP.next_nil bQ
    have ax:=bP.frN bQ
    have d5:=TT.ofW ax cA
    refine ⟨fun _=>d5,?_⟩
    refine qaH (i:=4) kz (qb1 cA d4 (e:=90) (size:=10) (len:=1) (cs:=[.int .i16 ((ab.f 0).n),.int .i32 ((ab.f 1).n),.int .i32 ((ab.f 2).n),.int .i32 ((ab.f 3).n),.slice ((ab.f 4).A) ((ab.f 4).l) ((ab.f 4).c),.slice ((ab.f 5).A) ((ab.f 5).l) ((ab.f 5).c),.slice ((ab.f 6).A) ((ab.f 6).l) ((ab.f 6).c),.slice ((ab.f 7).A) ((ab.f 7).l) ((ab.f 7).c),.slice ((ab.f 8).A) ((ab.f 8).l) ((ab.f 8).c),.map ab.m]) (d:=50) kz kz fun fy jS jT gf gg ak aY d6=>?_)
    have d7:=TT.ofW (ax.trans ak) aY
    refine ⟨fun _=>d7,?_⟩
    refine qaH (i:=5) kz (qaU aY d6 (k:=0) (d:=51) (t:=74) (e:=90) (size:=10) (bytes:=144) (A:=A_) (As:=(some ⟨fy,0,none⟩)) (m0:=k) (c:=c_) (m:=1) (cs:=1) (xs:=xs_) (news:=[.int .i16 ((ab.f 0).n),.int .i32 ((ab.f 1).n),.int .i32 ((ab.f 2).n),.int .i32 ((ab.f 3).n),.slice ((ab.f 4).A) ((ab.f 4).l) ((ab.f 4).c),.slice ((ab.f 5).A) ((ab.f 5).l) ((ab.f 5).c),.slice ((ab.f 6).A) ((ab.f 6).l) ((ab.f 6).c),.slice ((ab.f 7).A) ((ab.f 7).l) ((ab.f 7).c),.slice ((ab.f 8).A) ((ab.f 8).l) ((ab.f 8).c),.map ab.m]) kz kz rfl (qbL (aY.own 1 _ rfl) (qbq kz)) (qb0 (aY.own 1 _ rfl)) (by omega) fun bR bS jU jV ay cB d8=>?_)
    have cC:=TT.ofW ((ax.trans ak).trans ay) cB
    refine ⟨fun _=>cC,?_⟩
    refine qbg [6] [(1,.p 0 0),(2,.p 1 0),(3,.p 2 0),(40,.v (.slice aL ac.length aW)),(41,.v (.int .i64 ((ac.length:Nat):Int))),(42,.v (.int .i64 ((k:Nat):Int))),(51,.v (.slice bR (k + 1) bS)),(52,.p 2 19)] 1 (qaf (qab (qab (qaf (qab qal))))) (fun _ h=>h.cells) cC d8 fun jW d9=>?_
    refine qaH (i:=7) kz (qaj cB d9 (oi:=2) (cs:=[.int .i16 (IntKind.i16.wrap am),.pointer ae,qac (aa.getD 0 0),qac (aa.getD 1 0),qac (aa.getD 2 0),qac (aa.getD 3 0),qac (aa.getD 4 0),qac (aa.getD 5 0),qac (aa.getD 6 0),qac (aa.getD 7 0),qac (aa.getD 8 0),qac (aa.getD 9 0),qac (aa.getD 10 0),qac (aa.getD 11 0),qac (aa.getD 12 0),qac (aa.getD 13 0),qac (aa.getD 14 0),qac (aa.getD 15 0),.bool ((IntKind.i64.wrap (BitVec.ofInt 64 af &&& BitVec.ofInt 64 1).toNat) == 1),.slice bR (k + 1) bS,.int .i32 0,.map none]) kz fun jX aP cD ea=>?_)
    refine ⟨fun h=>absurd rfl h,?_⟩
    refine qbb kz ?_ _
    refine qas ?_
    refine qaa ?_
    refine qap [0,1] kz ?_
    refine qak [0,1] [] [(1,.p 0 0),(2,.p 1 0),(3,.p 2 0),(40,.v (.slice aL ac.length aW)),(41,.v (.int .i64 ((ac.length:Nat):Int))),(42,.v (.int .i64 (IntKind.i64.wrap (((k:Nat):Int) + 1))))] cD ea fun jY eb=>?_
    refine qae (qaa ?_)
    obtain ⟨cE,ec,aQ⟩:=cD.cutB eb 3 [⟨bY,0,[.int .i64 n1,.slice A6 s2.length c7,.bool b3,.slice A8 l4.length c9,.slice ag u5.length ah],true⟩,⟨aU,0,[.int .i16 0,.pointer none,.int .u8 0,.int .u8 0,.int .u8 0,.int .u8 0,.int .u8 0,.int .u8 0,.int .u8 0,.int .u8 0,.int .u8 0,.int .u8 0,.int .u8 0,.int .u8 0,.int .u8 0,.int .u8 0,.int .u8 0,.int .u8 0,.bool false,.slice none 0 0,.int .i32 0,.map none],true⟩,⟨aD,0,[.int .i16 (IntKind.i16.wrap am),.pointer ae,qac (aa.getD 0 0),qac (aa.getD 1 0),qac (aa.getD 2 0),qac (aa.getD 3 0),qac (aa.getD 4 0),qac (aa.getD 5 0),qac (aa.getD 6 0),qac (aa.getD 7 0),qac (aa.getD 8 0),qac (aa.getD 9 0),qac (aa.getD 10 0),qac (aa.getD 11 0),qac (aa.getD 12 0),qac (aa.getD 13 0),qac (aa.getD 14 0),qac (aa.getD 15 0),.bool ((IntKind.i64.wrap (BitVec.ofInt 64 af &&& BitVec.ofInt 64 1).toNat) == 1),.slice bR (k + 1) bS,.int .i32 0,.map none],true⟩] [(1,.p 0 0),(2,.p 1 0),(3,.p 2 0),(40,.v (.slice aL ac.length aW)),(41,.v (.int .i64 ((ac.length:Nat):Int))),(42,.v (.int .i64 (IntKind.i64.wrap (((k:Nat):Int) + 1))))]
    obtain ⟨cG,aR⟩:=ec.cutR 1 [⟨bR,bS,90,10,k + 1,xs_ ++ [.int .i16 ((ab.f 0).n),.int .i32 ((ab.f 1).n),.int .i32 ((ab.f 2).n),.int .i32 ((ab.f 3).n),.slice ((ab.f 4).A) ((ab.f 4).l) ((ab.f 4).c),.slice ((ab.f 5).A) ((ab.f 5).l) ((ab.f 5).c),.slice ((ab.f 6).A) ((ab.f 6).l) ((ab.f 6).c),.slice ((ab.f 7).A) ((ab.f 7).l) ((ab.f 7).c),.slice ((ab.f 8).A) ((ab.f 8).l) ((ab.f 8).c),.map ab.m]⟩]
    have ee:IntKind.i64.wrap (((k:Nat):Int) + 1) = ((k + 1:Nat):Int):=qaN (by omega)
    rw [ee] at cE
    exact ⟨ac.length - (k + 1),by omega,k + 1,bR,bS,xs_ ++ [Value.int .i16 ((ab.f 0).n),.int .i32 ((ab.f 1).n),.int .i32 ((ab.f 2).n),.int .i32 ((ab.f 3).n),.slice ((ab.f 4).A) ((ab.f 4).l) ((ab.f 4).c),.slice ((ab.f 5).A) ((ab.f 5).l) ((ab.f 5).c),.slice ((ab.f 6).A) ((ab.f 6).l) ((ab.f 6).c),.slice ((ab.f 7).A) ((ab.f 7).l) ((ab.f 7).c),.slice ((ab.f 8).A) ((ab.f 8).l) ((ab.f 8).c),.map ab.m],(ds_ ++ [ab]),rfl,by omega,qdq cG (k:=0) rfl (by omega),RowL.snoc (d:=ab) (hR.move ((((((((aM.trans aN).trans aO).trans ax).trans ak).trans ay).trans aP).trans aQ).trans aR).step immM ((((((((aM.trans aN).trans aO).trans ax).trans ak).trans ay).trans aP).trans aQ).trans aR).to') bB rfl (qaK _ ((((ak.trans ay).trans aP).trans aQ).trans aR).step immM ((((ak.trans ay).trans aP).trans aQ).trans aR).to' dZ) bX,cE.pk,cG,(((((((((aw.trans aM).trans aN).trans aO).trans ax).trans ak).trans ay).trans aP).trans aQ).trans aR)⟩
   have gh:=of_decide_eq_false bz
   refine wp_exit ?_
   refine qar ?_
   refine qar ?_
   refine qaE ?_
   refine qaa ?_
   have hk_:k = (lst (Tree.at_ (Tree.mk n1 s2 b3 l4 u5) 4)).length:=by rw [hl3_]; omega
   subst k
   have hL_:=LstR.of aX (k:=0) (rs':=[]) rfl hR (by rw [hl3_]) qbI (by omega)
   rw [← hl3_] at hL_
   obtain ⟨ef,eg⟩:=aX.cutR 0 []
   exact ⟨_,_,_,by rw [hnull_]; exact hA,hL_,bw.pk,ef,(((((dA.trans dC).trans dF).trans dM).trans aw).trans eg)⟩
  refine wp_skip ?_
  refine qaa ?_
  have hn_:Tree.null (Tree.at_ (Tree.mk n1 s2 b3 l4 u5) 4) = true:=by rw [cr]; show bW = true; simpa using br
  have hl_:=qfk hn_
  exact ⟨none,0,fun _=>dv0,by rw [hn_]; rfl,by rw [hl_]; exact LstR.nil qaK,by rw [hl_]; exact ⟨bq.pk,ai,Fr.refl _ _ _⟩⟩
 rintro jZ j0 ⟨aE,aF,fz,eh,bT,ei,aA,cH⟩
 refine qad [0,1,2,3,4,5] kz ?_
 refine qak [0] [1,2,3,4,5] [(1,.p 0 0),(2,.p 1 0),(3,.p 2 0),(54,.v (.agg #[.int .i64 n1,.slice A6 s2.length c7,.bool b3,.slice A8 l4.length c9,.slice ag u5.length ah]))] aA ei fun j1 ej=>?_
 refine qah (qai ej (f:=29) (vs:=[.agg #[.int .i64 n1,.slice A6 s2.length c7,.bool b3,.slice A8 l4.length c9,.slice ag u5.length ah],.int .i64 5]) (d:=55) kz Tryz.call29 (iAt _ _ 5 _ _ (ht.move aA.step nilM aA.imm)) ?_)
 rintro e_ j2 ⟨gi,rfl,ek,aS⟩
 have cI:=ek.move aS nilM (fun b o h_ hb_=>aA.laid (G:=F) aS b o (.inl h_) (Nat.lt_of_lt_of_le hb_ aS.size))
 obtain ⟨ao,j3,j4,j5,j6,j7,j8,j9,ka,kd,ke,gj,em,bU,fA,fB,kf,kg⟩:=cI.open_
 rw [bU] at cI
 have fC:=fA.small
 have fD:=fB.small
 rw [bU]
 refine ⟨_,rfl,fun kh eo=>?_⟩
 have cJ:=aA.next_nil aS
 have aB:=aA.frN aS
 refine qak [2,3,4] [5] [(1,.p 0 0),(2,.p 1 0),(3,.p 2 0),(57,.v (.int .i32 (IntKind.i32.wrap ao))),(58,.p 2 20)] cJ eo fun ki ep=>?_
 refine qah (qaj cJ ep (oi:=2) (cs:=[.int .i16 (IntKind.i16.wrap am),.pointer ae,qac (aa.getD 0 0),qac (aa.getD 1 0),qac (aa.getD 2 0),qac (aa.getD 3 0),qac (aa.getD 4 0),qac (aa.getD 5 0),qac (aa.getD 6 0),qac (aa.getD 7 0),qac (aa.getD 8 0),qac (aa.getD 9 0),qac (aa.getD 10 0),qac (aa.getD 11 0),qac (aa.getD 12 0),qac (aa.getD 13 0),qac (aa.getD 14 0),qac (aa.getD 15 0),.bool ((IntKind.i64.wrap (BitVec.ofInt 64 af &&& BitVec.ofInt 64 1).toNat) == 1),.slice aE ((lst (Tree.at_ (Tree.mk n1 s2 b3 l4 u5) 4)).length) aF,.int .i32 (IntKind.i32.wrap ao),.map none]) kz fun fE aC aT eu=>?_)
 refine qae (qaa ?_)
 refine wp_seq ?_
 refine qaz [(2,.p 1 0),(3,.p 2 0),(60,.v (.slice ag u5.length ah)),(61,.v (.int .i64 ((u5.length:Nat):Int))),(62,.v (.int .i64 0))] aT eu fun kj ev=>?_
 refine wp_block ?_
 have ew:=qgl aT 2 rfl kz
 have ey:=ev.recast 2 (.p 1 0) (.v (.pointer (some ⟨aU,0,none⟩))) rfl rfl trivial
 have ez:=ey.recast 3 (.p 2 0) (.v (.pointer (some ⟨aD,0,none⟩))) rfl rfl trivial
 have eA:=(ez.pick (ks:=[2,3,60,61,62]) (env':=[(2,.v (.pointer (some ⟨aU,0,none⟩))),(3,.v (.pointer (some ⟨aD,0,none⟩))),(60,.v (.slice ag u5.length ah)),(61,.v (.int .i64 ((u5.length:Nat):Int))),(62,.v (.int .i64 0))]) kz).cutTb 0 kz
 refine wp_loop_ghost (fun q a_ w_=>∃ (j:Nat) (m_:Option Nat),q = u5.length - j ∧ j ≤ u5.length ∧ EnvOk 74 [] [(2,.v (.pointer (some ⟨aU,0,none⟩))),(3,.v (.pointer (some ⟨aD,0,none⟩))),(60,.v (.slice ag u5.length ah)),(61,.v (.int .i64 ((u5.length:Nat):Int))),(62,.v (.int .i64 ((j:Nat):Int)))] a_ ∧ TL w fE w_ F aD 21 [.int .i16 (IntKind.i16.wrap am),.pointer ae,qac (aa.getD 0 0),qac (aa.getD 1 0),qac (aa.getD 2 0),qac (aa.getD 3 0),qac (aa.getD 4 0),qac (aa.getD 5 0),qac (aa.getD 6 0),qac (aa.getD 7 0),qac (aa.getD 8 0),qac (aa.getD 9 0),qac (aa.getD 10 0),qac (aa.getD 11 0),qac (aa.getD 12 0),qac (aa.getD 13 0),qac (aa.getD 14 0),qac (aa.getD 15 0),.bool ((IntKind.i64.wrap (BitVec.ofInt 64 af &&& BitVec.ofInt 64 1).toNat) == 1),.slice aE ((lst (Tree.at_ (Tree.mk n1 s2 b3 l4 u5) 4)).length) aF,.int .i32 (IntKind.i32.wrap ao),.map none] m_ (u5.take j)) u5.length
  ⟨0,none,by omega,by omega,eA,TL.start aT 2 rfl rfl⟩ ?_
 rintro q aq wq ⟨j,m_,rfl,hj,hE2,hT⟩
 have hWq:=WOk.start wq Nil
 refine qaz [(2,.v (.pointer (some ⟨aU,0,none⟩))),(3,.v (.pointer (some ⟨aD,0,none⟩))),(60,.v (.slice ag u5.length ah)),(61,.v (.int .i64 ((u5.length:Nat):Int))),(62,.v (.int .i64 ((j:Nat):Int))),(63,.v (.bool (decide (((j:Nat):Int) < ((u5.length:Nat):Int)))))] hWq hE2 fun aq2 hE3=>wp_seq ?_
 refine qau hE3 (b:=decide (((j:Nat):Int) < ((u5.length:Nat):Int))) kz (fun hc=>?_) (fun hc=>?_)
 ·have hlt:j < u5.length:=by have:=of_decide_eq_true hc; omega
  refine wp_skip (qaa (wp_seq (wp_block ?_)))
  obtain ⟨⟨k,x⟩,hu⟩:∃ y,u5[j]? = some y:=⟨_,List.getElem?_eq_getElem hlt⟩
  obtain ⟨bb,bo,xA,xc,hA,hat,hxo,hk⟩:=qgk fG hu
  refine qad [0,1,2,3] kz ?_
  refine qah (qaM hE3 (t:=37) (e:=65) (size:=2) (bytes:=32) (d:=64) (b:=bb) (o:=bo) (m:=u5.length) (j:=j) kz kz hA rfl hlt fun aq3 hE4=>?_)
  refine qah (qa0 hE4 (t:=65) (d:=65) (cs:=[.int .u32 k,.slice xA x.length xc]) (v:=.agg #[.int .u32 k,.slice xA x.length xc]) kz kz (hat.step_nil hT.step) fun aq4 hE5=>?_)
  refine qah (qaw hWq hE5 (d:=7) (cs:=[.int .u32 0,.slice none 0 0]) kz fun bx aq5 wq2 hbx hbx0 hFq2 hWq2 hE6=>?_)
  refine qah (qaj hWq2 hE6 (oi:=0) (cs:=[.int .u32 k,.slice xA x.length xc]) kz fun wq3 hFq3 hWq3 hE7=>qae (qaa ?_))
  refine qap [0,1,2,3,4,5] kz (qak [0,1,2,3,4] [5] [(2,.v (.pointer (some ⟨aU,0,none⟩))),(3,.v (.pointer (some ⟨aD,0,none⟩))),(60,.v (.slice ag u5.length ah)),(61,.v (.int .i64 ((u5.length:Nat):Int))),(62,.v (.int .i64 ((j:Nat):Int))),(66,.v (.pointer (some ⟨aD,21,none⟩))),(68,.v (.int .u32 k)),(70,.v (.slice xA x.length xc))] hWq3 hE7 fun aq6 hE8=>?_)
  refine qah (qai hE8 (f:=32) (vs:=[.pointer (some ⟨aD,21,none⟩),.int .u32 k,.slice xA x.length xc]) (d:=71) kz Tryz.call32 ((hT.move hWq3.step).set ew kz hsort hu hxo hk) ?_)
  rintro e_ wq5 ⟨rfl,hS5,r,hT5⟩
  refine ⟨_,rfl,fun aq7 hE9=>qae (qas (qaa ?_))⟩
  have fF:=(hE9.pick (ks:=[2,3,60,61,62]) (env':=[(2,.v (.pointer (some ⟨aU,0,none⟩))),(3,.v (.pointer (some ⟨aD,0,none⟩))),(60,.v (.slice ag u5.length ah)),(61,.v (.int .i64 ((u5.length:Nat):Int))),(62,.v (.int .i64 ((j:Nat):Int)))]) kz).cutTb 0 kz
  refine qap [0,1] kz (qak [0,1] [] [(2,.v (.pointer (some ⟨aU,0,none⟩))),(3,.v (.pointer (some ⟨aD,0,none⟩))),(60,.v (.slice ag u5.length ah)),(61,.v (.int .i64 ((u5.length:Nat):Int))),(62,.v (.int .i64 (IntKind.i64.wrap (((j:Nat):Int) + 1))))] (WOk.start wq5 Nil) fF fun aq8 eB=>qae (qaa ?_))
  rw [qaN (by omega)] at eB
  exact ⟨u5.length - (j + 1),by omega,j + 1,some r,rfl,by omega,eB,hT5⟩
 obtain rfl:j = u5.length:=by have:=of_decide_eq_false hc; omega
 refine wp_exit (qar (qar (qaE ?_)))
 rw [List.take_length] at hT
 obtain ⟨bV,al⟩:=hT.tab aT 2 [⟨bY,0,[.int .i64 n1,.slice A6 s2.length c7,.bool b3,.slice A8 l4.length c9,.slice ag u5.length ah],true⟩,⟨aU,0,[.int .i16 0,.pointer none,.int .u8 0,.int .u8 0,.int .u8 0,.int .u8 0,.int .u8 0,.int .u8 0,.int .u8 0,.int .u8 0,.int .u8 0,.int .u8 0,.int .u8 0,.int .u8 0,.int .u8 0,.int .u8 0,.int .u8 0,.int .u8 0,.bool false,.slice none 0 0,.int .i32 0,.map none],true⟩,⟨aD,0,[.int .i16 (IntKind.i16.wrap am),.pointer ae,qac (aa.getD 0 0),qac (aa.getD 1 0),qac (aa.getD 2 0),qac (aa.getD 3 0),qac (aa.getD 4 0),qac (aa.getD 5 0),qac (aa.getD 6 0),qac (aa.getD 7 0),qac (aa.getD 8 0),qac (aa.getD 9 0),qac (aa.getD 10 0),qac (aa.getD 11 0),qac (aa.getD 12 0),qac (aa.getD 13 0),qac (aa.getD 14 0),qac (aa.getD 15 0),.bool ((IntKind.i64.wrap (BitVec.ofInt 64 af &&& BitVec.ofInt 64 1).toNat) == 1),.slice aE ((lst (Tree.at_ (Tree.mk n1 s2 b3 l4 u5) 4)).length) aF,.int .i32 (IntKind.i32.wrap ao),.map m_],true⟩] rfl
 have eC:=hT.mapImm aT bV al hsort (qdP fG)
 have eD:=(hE3.retable [⟨bY,0,[.int .i64 n1,.slice A6 s2.length c7,.bool b3,.slice A8 l4.length c9,.slice ag u5.length ah],true⟩,⟨aU,0,[.int .i16 0,.pointer none,.int .u8 0,.int .u8 0,.int .u8 0,.int .u8 0,.int .u8 0,.int .u8 0,.int .u8 0,.int .u8 0,.int .u8 0,.int .u8 0,.int .u8 0,.int .u8 0,.int .u8 0,.int .u8 0,.int .u8 0,.int .u8 0,.bool false,.slice none 0 0,.int .i32 0,.map none],true⟩,⟨aD,0,[.int .i16 (IntKind.i16.wrap am),.pointer ae,qac (aa.getD 0 0),qac (aa.getD 1 0),qac (aa.getD 2 0),qac (aa.getD 3 0),qac (aa.getD 4 0),qac (aa.getD 5 0),qac (aa.getD 6 0),qac (aa.getD 7 0),qac (aa.getD 8 0),qac (aa.getD 9 0),qac (aa.getD 10 0),qac (aa.getD 11 0),qac (aa.getD 12 0),qac (aa.getD 13 0),qac (aa.getD 14 0),qac (aa.getD 15 0),.bool ((IntKind.i64.wrap (BitVec.ofInt 64 af &&& BitVec.ofInt 64 1).toNat) == 1),.slice aE ((lst (Tree.at_ (Tree.mk n1 s2 b3 l4 u5) 4)).length) aF,.int .i32 (IntKind.i32.wrap ao),.map m_],true⟩]).recast 2 (.v (.pointer (some ⟨aU,0,none⟩))) (.p 1 0) rfl rfl (Nat.le_of_ble_eq_true (n:=2) rfl)
 have eE:=eD.recast 3 (.v (.pointer (some ⟨aD,0,none⟩))) (.p 2 0) rfl rfl (Nat.le_of_ble_eq_true (n:=3) rfl)
 have eF:EnvOk 74 [⟨bY,0,[.int .i64 n1,.slice A6 s2.length c7,.bool b3,.slice A8 l4.length c9,.slice ag u5.length ah],true⟩,⟨aU,0,[.int .i16 0,.pointer none,.int .u8 0,.int .u8 0,.int .u8 0,.int .u8 0,.int .u8 0,.int .u8 0,.int .u8 0,.int .u8 0,.int .u8 0,.int .u8 0,.int .u8 0,.int .u8 0,.int .u8 0,.int .u8 0,.int .u8 0,.int .u8 0,.bool false,.slice none 0 0,.int .i32 0,.map none],true⟩,⟨aD,0,[.int .i16 (IntKind.i16.wrap am),.pointer ae,qac (aa.getD 0 0),qac (aa.getD 1 0),qac (aa.getD 2 0),qac (aa.getD 3 0),qac (aa.getD 4 0),qac (aa.getD 5 0),qac (aa.getD 6 0),qac (aa.getD 7 0),qac (aa.getD 8 0),qac (aa.getD 9 0),qac (aa.getD 10 0),qac (aa.getD 11 0),qac (aa.getD 12 0),qac (aa.getD 13 0),qac (aa.getD 14 0),qac (aa.getD 15 0),.bool ((IntKind.i64.wrap (BitVec.ofInt 64 af &&& BitVec.ofInt 64 1).toNat) == 1),.slice aE ((lst (Tree.at_ (Tree.mk n1 s2 b3 l4 u5) 4)).length) aF,.int .i32 (IntKind.i32.wrap ao),.map m_],true⟩] [(2,.p 1 0),(3,.p 2 0)] _:=eE.pk
 refine qaa ?_
 refine qad [0,1] kz ?_
 refine qak [0] [1] [(2,.p 1 0),(73,.v (.agg #[.int .i16 (IntKind.i16.wrap am),.pointer ae,qac (aa.getD 0 0),qac (aa.getD 1 0),qac (aa.getD 2 0),qac (aa.getD 3 0),qac (aa.getD 4 0),qac (aa.getD 5 0),qac (aa.getD 6 0),qac (aa.getD 7 0),qac (aa.getD 8 0),qac (aa.getD 9 0),qac (aa.getD 10 0),qac (aa.getD 11 0),qac (aa.getD 12 0),qac (aa.getD 13 0),qac (aa.getD 14 0),qac (aa.getD 15 0),.bool ((IntKind.i64.wrap (BitVec.ofInt 64 af &&& BitVec.ofInt 64 1).toNat) == 1),.slice aE ((lst (Tree.at_ (Tree.mk n1 s2 b3 l4 u5) 4)).length) aF,.int .i32 (IntKind.i32.wrap ao),.map m_]))] bV eF fun km eG=>?_
 refine qah (qaj bV eG (oi:=1) (cs:=[.int .i16 (IntKind.i16.wrap am),.pointer ae,qac (aa.getD 0 0),qac (aa.getD 1 0),qac (aa.getD 2 0),qac (aa.getD 3 0),qac (aa.getD 4 0),qac (aa.getD 5 0),qac (aa.getD 6 0),qac (aa.getD 7 0),qac (aa.getD 8 0),qac (aa.getD 9 0),qac (aa.getD 10 0),qac (aa.getD 11 0),qac (aa.getD 12 0),qac (aa.getD 13 0),qac (aa.getD 14 0),qac (aa.getD 15 0),.bool ((IntKind.i64.wrap (BitVec.ofInt 64 af &&& BitVec.ofInt 64 1).toNat) == 1),.slice aE ((lst (Tree.at_ (Tree.mk n1 s2 b3 l4 u5) 4)).length) aF,.int .i32 (IntKind.i32.wrap ao),.map m_]) kz fun kn aj cK eH=>?_)
 refine qae (qaa ?_)
 refine wp_ret ?_
 refine qaV eH cK.cells (v:=.agg #[.int .i16 (IntKind.i16.wrap am),.pointer ae,qac (aa.getD 0 0),qac (aa.getD 1 0),qac (aa.getD 2 0),qac (aa.getD 3 0),qac (aa.getD 4 0),qac (aa.getD 5 0),qac (aa.getD 6 0),qac (aa.getD 7 0),qac (aa.getD 8 0),qac (aa.getD 9 0),qac (aa.getD 10 0),qac (aa.getD 11 0),qac (aa.getD 12 0),qac (aa.getD 13 0),qac (aa.getD 14 0),qac (aa.getD 15 0),.bool ((IntKind.i64.wrap (BitVec.ofInt 64 af &&& BitVec.ofInt 64 1).toNat) == 1),.slice aE ((lst (Tree.at_ (Tree.mk n1 s2 b3 l4 u5) 4)).length) aF,.int .i32 (IntKind.i32.wrap ao),.map m_]) kz ?_
 refine ⟨dvP m_ u5 [dvN (IntKind.i16.wrap am),dvT ae (bs (qdf (Tree.at_ (Tree.mk n1 s2 b3 l4 u5) 1))),dvO none (qcL aa) 0,dvB ((IntKind.i64.wrap (BitVec.ofInt 64 af &&& BitVec.ofInt 64 1).toNat) == 1),dvL aE (lst (Tree.at_ (Tree.mk n1 s2 b3 l4 u5) 4)).length aF fz,dvN (IntKind.i32.wrap ao)],rfl,?_,?_,cK.step⟩
 ·unfold qaC
  exact ⟨trivial,⟨fun ad h=>by
  obtain ⟨b,o,g1,g2⟩:=cS ad h
  exact ⟨b,o,g1,((g2.move (((((((((((b5.trans b8).trans cc).trans cd).trans cl).trans cm).trans cu).trans cH).trans aB).trans aC).trans al).trans aj).step immM (((((((((((b5.trans b8).trans cc).trans cd).trans cl).trans cm).trans cu).trans cH).trans aB).trans aC).trans al).trans aj).to').move (Step.refl _ Nil) nilM qcf)⟩,by show ByteArray.size (bs (qdf (Tree.at_ (Tree.mk n1 s2 b3 l4 u5) 1))) ≤ 1000000; rw [qcX]; exact cj1⟩,qgv _,trivial,⟨((bT.move (((aB.trans aC).trans al).trans aj).step immM (((aB.trans aC).trans al).trans aj).to').move (Step.refl _ Nil) nilM qcf).slots,cj4,((bT.move (((aB.trans aC).trans al).trans aj).step immM (((aB.trans aC).trans al).trans aj).to').move (Step.refl _ Nil) nilM qcf).each⟩,trivial,((eC.move aj.step immM aj.to').move (Step.refl _ Nil) nilM qcf),cU.2.1,cU.2.2,trivial⟩
 unfold qaO
 exact ⟨by rw [eP]; rfl,⟨rfl,cR⟩,by rw [c8]; rfl,by rw [dj]; exact qjI _,⟨eh,rfl,bT.rel_⟩,by rw [em]; rfl,rfl,trivial⟩
set_option maxHeartbeats 4000000 in
theorem qbX (ct:List Value) (t:Tree) (w:World) (F:Nat → Nat → Prop) (ht:TreeR w F ct t) (hc:qaQ t) :
  Calls Tryz.prog 58 #[.agg ct.toArray] w (fun e w'=>∃ D:DV,e = .returned (.agg #[.string ((D.f 0).s),.int .i32 ((D.f 1).n),.map D.m]) ∧ qax w' (Fp F w) D ∧ qaP D t ∧ Step w w' Nil):=by
 obtain ⟨n1,s2,b3,l4,u5,A6,c7,A8,c9,ab,ac,bF,rfl,rfl,bG,bH,cl,bu⟩:=ht.open_
 have bv:=bG.small
 have bw:=bH.small
 unfold qaQ at hc
 obtain ⟨cj0,cj1,cU,_⟩:=hc
 have hsort:=cU.1
 replace hsort:qcV u5:=hsort
 have hul:u5.length ≤ 1000000:=cU.2.1
 refine enter (n:=31) Tryz.func58 rfl Tryz.ntmps58 kz fun a hE=>?_
 have hW:=WOk.start w Nil
 refine qad [0,1] kz ?_
 refine qah (qa9 hW hE (d:=1) (cs:=[.int .i64 n1,.slice A6 s2.length c7,.bool b3,.slice A8 l4.length c9,.slice ab u5.length ac]) kz fun aS cm cq bI bJ bK aT aU=>?_)
 refine qah (qaw aT aU (d:=2) (cs:=[.string ByteArray.empty,.int .i32 0,.map none]) kz fun ai cr cu bL bM bN aV aW=>?_)
 refine qae (qaa ?_)
 refine qad [0] kz ?_
 refine qah (qaw aV aW (d:=3) (cs:=[.string ByteArray.empty,.int .i32 0,.map none]) kz fun ae cv cw bO bP bQ af aX=>?_)
 refine qae (qaa ?_)
 refine qad [0,1,2,3,4,5] kz ?_
 refine qak [0] [1,2,3,4,5] [(1,.p 0 0),(2,.p 1 0),(3,.p 2 0),(6,.v (.agg #[.int .i64 n1,.slice A6 s2.length c7,.bool b3,.slice A8 l4.length c9,.slice ab u5.length ac]))] af aX fun cy aY=>?_
 refine qah (qai aY (f:=29) (vs:=[.agg #[.int .i64 n1,.slice A6 s2.length c7,.bool b3,.slice A8 l4.length c9,.slice ab u5.length ac],.int .i64 0]) (d:=7) kz Tryz.call29 (iAt _ _ 0 _ _ (ht.move af.step nilM af.imm)) ?_)
 rintro e_ cz ⟨bR,rfl,aZ,aj⟩
 have ax:=aZ.move aj nilM (fun b o h_ hb_=>af.laid (G:=F) aj b o (.inl h_) (Nat.lt_of_lt_of_le hb_ aj.size))
 obtain ⟨cA,ag,cB,cC,cD,bS,bT,cE,cG,cH,cI,bU,ay,ap,bz,bV,cJ,cK⟩:=ax.open_
 rw [ap] at ax
 have bA:=bz.small
 have bB:=bV.small
 rw [ap]
 refine ⟨_,rfl,fun cL ba=>?_⟩
 have aw:=af.next_nil aj
 have bW:=af.frN aj
 refine qak [2] [3,4,5] [(1,.p 0 0),(2,.p 1 0),(3,.p 2 0),(8,.v (.slice bS ag.length bT))] aw ba fun cM bd=>?_
 refine qah (qgD bd (src:=22) (dst:=9) (e:=5) (d:=9) kz kz kz kz bz fun cN bf=>?_)
 refine qak [4] [5] [(1,.p 0 0),(2,.p 1 0),(3,.p 2 0),(9,.v (.string (bs ag))),(10,.p 2 0)] aw bf fun cO bg=>?_
 refine qah (qaj aw bg (oi:=2) (cs:=[.string (bs ag),.int .i32 0,.map none]) kz fun cP bX ah bh=>?_)
 refine qae (qaa ?_)
 refine qad [0,1,2,3,4,5] kz ?_
 refine qak [0] [1,2,3,4,5] [(1,.p 0 0),(2,.p 1 0),(3,.p 2 0),(11,.v (.agg #[.int .i64 n1,.slice A6 s2.length c7,.bool b3,.slice A8 l4.length c9,.slice ab u5.length ac]))] ah bh fun cQ bi=>?_
 refine qah (qai bi (f:=29) (vs:=[.agg #[.int .i64 n1,.slice A6 s2.length c7,.bool b3,.slice A8 l4.length c9,.slice ab u5.length ac],.int .i64 1]) (d:=12) kz Tryz.call29 (iAt _ _ 1 _ _ (ht.move ah.step nilM ah.imm)) ?_)
 rintro e_ cR ⟨bY,rfl,bj,ak⟩
 have aA:=bj.move ak nilM (fun b o h_ hb_=>ah.laid (G:=F) ak b o (.inl h_) (Nat.lt_of_lt_of_le hb_ ak.size))
 obtain ⟨ao,cS,cT,cV,cW,cX,cY,bZ,b0,b5,b6,bC,aB,al,bk,bn,b8,ca⟩:=aA.open_
 rw [al] at aA
 have bp:=bk.small
 have bq:=bn.small
 rw [al]
 refine ⟨_,rfl,fun cb aC=>?_⟩
 have ar:=ah.next_nil ak
 have bD:=ah.frN ak
 refine qak [2,3,4] [5] [(1,.p 0 0),(2,.p 1 0),(3,.p 2 0),(14,.v (.int .i32 (IntKind.i32.wrap ao))),(15,.p 2 1)] ar aC fun cc aD=>?_
 refine qah (qaj ar aD (oi:=2) (cs:=[.string (bs ag),.int .i32 (IntKind.i32.wrap ao),.map none]) kz fun br bE aa aE=>?_)
 refine qae (qaa ?_)
 refine wp_seq ?_
 refine qaz [(2,.p 1 0),(3,.p 2 0),(17,.v (.slice ab u5.length ac)),(18,.v (.int .i64 ((u5.length:Nat):Int))),(19,.v (.int .i64 0))] aa aE fun cd aF=>?_
 refine wp_block ?_
 have aG:=qgl aa 2 rfl kz
 have aH:=aF.recast 2 (.p 1 0) (.v (.pointer (some ⟨ai,0,none⟩))) rfl rfl trivial
 have aI:=aH.recast 3 (.p 2 0) (.v (.pointer (some ⟨ae,0,none⟩))) rfl rfl trivial
 have aJ:=(aI.pick (ks:=[2,3,17,18,19]) (env':=[(2,.v (.pointer (some ⟨ai,0,none⟩))),(3,.v (.pointer (some ⟨ae,0,none⟩))),(17,.v (.slice ab u5.length ac)),(18,.v (.int .i64 ((u5.length:Nat):Int))),(19,.v (.int .i64 0))]) kz).cutTb 0 kz
 refine wp_loop_ghost (fun q a_ w_=>∃ (j:Nat) (m_:Option Nat),q = u5.length - j ∧ j ≤ u5.length ∧ EnvOk 31 [] [(2,.v (.pointer (some ⟨ai,0,none⟩))),(3,.v (.pointer (some ⟨ae,0,none⟩))),(17,.v (.slice ab u5.length ac)),(18,.v (.int .i64 ((u5.length:Nat):Int))),(19,.v (.int .i64 ((j:Nat):Int)))] a_ ∧ TL w br w_ F ae 2 [.string (bs ag),.int .i32 (IntKind.i32.wrap ao),.map none] m_ (u5.take j)) u5.length
  ⟨0,none,by omega,by omega,aJ,TL.start aa 2 rfl rfl⟩ ?_
 rintro q aq wq ⟨j,m_,rfl,hj,hE2,hT⟩
 have hWq:=WOk.start wq Nil
 refine qaz [(2,.v (.pointer (some ⟨ai,0,none⟩))),(3,.v (.pointer (some ⟨ae,0,none⟩))),(17,.v (.slice ab u5.length ac)),(18,.v (.int .i64 ((u5.length:Nat):Int))),(19,.v (.int .i64 ((j:Nat):Int))),(20,.v (.bool (decide (((j:Nat):Int) < ((u5.length:Nat):Int)))))] hWq hE2 fun aq2 hE3=>wp_seq ?_
 refine qau hE3 (b:=decide (((j:Nat):Int) < ((u5.length:Nat):Int))) kz (fun hc=>?_) (fun hc=>?_)
 ·have hlt:j < u5.length:=by have:=of_decide_eq_true hc; omega
  refine wp_skip (qaa (wp_seq (wp_block ?_)))
  obtain ⟨⟨k,x⟩,hu⟩:∃ y,u5[j]? = some y:=⟨_,List.getElem?_eq_getElem hlt⟩
  obtain ⟨bb,bo,xA,xc,hA,hat,hxo,hk⟩:=qgk bu hu
  refine qad [0,1,2,3] kz ?_
  refine qah (qaM hE3 (t:=37) (e:=65) (size:=2) (bytes:=32) (d:=21) (b:=bb) (o:=bo) (m:=u5.length) (j:=j) kz kz hA rfl hlt fun aq3 hE4=>?_)
  refine qah (qa0 hE4 (t:=65) (d:=22) (cs:=[.int .u32 k,.slice xA x.length xc]) (v:=.agg #[.int .u32 k,.slice xA x.length xc]) kz kz (hat.step_nil hT.step) fun aq4 hE5=>?_)
  refine qah (qaw hWq hE5 (d:=5) (cs:=[.int .u32 0,.slice none 0 0]) kz fun bx aq5 wq2 hbx hbx0 hFq2 hWq2 hE6=>?_)
  refine qah (qaj hWq2 hE6 (oi:=0) (cs:=[.int .u32 k,.slice xA x.length xc]) kz fun wq3 hFq3 hWq3 hE7=>qae (qaa ?_))
  refine qap [0,1,2,3,4,5] kz (qak [0,1,2,3,4] [5] [(2,.v (.pointer (some ⟨ai,0,none⟩))),(3,.v (.pointer (some ⟨ae,0,none⟩))),(17,.v (.slice ab u5.length ac)),(18,.v (.int .i64 ((u5.length:Nat):Int))),(19,.v (.int .i64 ((j:Nat):Int))),(23,.v (.pointer (some ⟨ae,2,none⟩))),(25,.v (.int .u32 k)),(27,.v (.slice xA x.length xc))] hWq3 hE7 fun aq6 hE8=>?_)
  refine qah (qai hE8 (f:=32) (vs:=[.pointer (some ⟨ae,2,none⟩),.int .u32 k,.slice xA x.length xc]) (d:=28) kz Tryz.call32 ((hT.move hWq3.step).set aG kz hsort hu hxo hk) ?_)
  rintro e_ wq5 ⟨rfl,hS5,r,hT5⟩
  refine ⟨_,rfl,fun aq7 hE9=>qae (qas (qaa ?_))⟩
  have bt:=(hE9.pick (ks:=[2,3,17,18,19]) (env':=[(2,.v (.pointer (some ⟨ai,0,none⟩))),(3,.v (.pointer (some ⟨ae,0,none⟩))),(17,.v (.slice ab u5.length ac)),(18,.v (.int .i64 ((u5.length:Nat):Int))),(19,.v (.int .i64 ((j:Nat):Int)))]) kz).cutTb 0 kz
  refine qap [0,1] kz (qak [0,1] [] [(2,.v (.pointer (some ⟨ai,0,none⟩))),(3,.v (.pointer (some ⟨ae,0,none⟩))),(17,.v (.slice ab u5.length ac)),(18,.v (.int .i64 ((u5.length:Nat):Int))),(19,.v (.int .i64 (IntKind.i64.wrap (((j:Nat):Int) + 1))))] (WOk.start wq5 Nil) bt fun aq8 aK=>qae (qaa ?_))
  rw [qaN (by omega)] at aK
  exact ⟨u5.length - (j + 1),by omega,j + 1,some r,rfl,by omega,aK,hT5⟩
 obtain rfl:j = u5.length:=by have:=of_decide_eq_false hc; omega
 refine wp_exit (qar (qar (qaE ?_)))
 rw [List.take_length] at hT
 obtain ⟨am,aL⟩:=hT.tab aa 2 [⟨aS,0,[.int .i64 n1,.slice A6 s2.length c7,.bool b3,.slice A8 l4.length c9,.slice ab u5.length ac],true⟩,⟨ai,0,[.string ByteArray.empty,.int .i32 0,.map none],true⟩,⟨ae,0,[.string (bs ag),.int .i32 (IntKind.i32.wrap ao),.map m_],true⟩] rfl
 have aM:=hT.mapImm aa am aL hsort (qdP bu)
 have aN:=(hE3.retable [⟨aS,0,[.int .i64 n1,.slice A6 s2.length c7,.bool b3,.slice A8 l4.length c9,.slice ab u5.length ac],true⟩,⟨ai,0,[.string ByteArray.empty,.int .i32 0,.map none],true⟩,⟨ae,0,[.string (bs ag),.int .i32 (IntKind.i32.wrap ao),.map m_],true⟩]).recast 2 (.v (.pointer (some ⟨ai,0,none⟩))) (.p 1 0) rfl rfl (Nat.le_of_ble_eq_true (n:=2) rfl)
 have aO:=aN.recast 3 (.v (.pointer (some ⟨ae,0,none⟩))) (.p 2 0) rfl rfl (Nat.le_of_ble_eq_true (n:=3) rfl)
 have aP:EnvOk 31 [⟨aS,0,[.int .i64 n1,.slice A6 s2.length c7,.bool b3,.slice A8 l4.length c9,.slice ab u5.length ac],true⟩,⟨ai,0,[.string ByteArray.empty,.int .i32 0,.map none],true⟩,⟨ae,0,[.string (bs ag),.int .i32 (IntKind.i32.wrap ao),.map m_],true⟩] [(2,.p 1 0),(3,.p 2 0)] _:=aO.pk
 refine qaa ?_
 refine qad [0,1] kz ?_
 refine qak [0] [1] [(2,.p 1 0),(30,.v (.agg #[.string (bs ag),.int .i32 (IntKind.i32.wrap ao),.map m_]))] am aP fun ce aQ=>?_
 refine qah (qaj am aQ (oi:=1) (cs:=[.string (bs ag),.int .i32 (IntKind.i32.wrap ao),.map m_]) kz fun cg au av aR=>?_)
 refine qae (qaa ?_)
 refine wp_ret ?_
 refine qaV aR av.cells (v:=.agg #[.string (bs ag),.int .i32 (IntKind.i32.wrap ao),.map m_]) kz ?_
 refine ⟨dvP m_ u5 [dvS (bs ag),dvN (IntKind.i32.wrap ao)],rfl,?_,?_,av.step⟩
 ·unfold qax
  exact ⟨by show ByteArray.size (bs ag) ≤ 1000000; rw [qcX]; have h_:=cj0; rw [ay] at h_; exact h_,trivial,((aM.move au.step immM au.to').move (Step.refl _ Nil) nilM qcf),cU.2.1,cU.2.2,trivial⟩
 unfold qaP
 exact ⟨by rw [ay]; rfl,by rw [aB]; rfl,rfl,trivial⟩
set_option maxHeartbeats 4000000 in
theorem qbY (ct:List Value) (t:Tree) (w:World) (F:Nat → Nat → Prop) (ht:TreeR w F ct t) (hc:qaQ t) :
  Calls Tryz.prog 31 #[.agg ct.toArray] w (fun e w'=>∃ (A:Option Addr) (D:DV),e = .returned (.pointer A) ∧ qbp w' (Fp F w) (dvPV A D) ∧ A.isNone = t.null ∧ (t.null = false → qaP (dvPV A D) t) ∧ Step w w' Nil):=by
 obtain ⟨n1,s2,b3,l4,u5,A6,c7,A8,c9,ak,al,aG,rfl,rfl,aH,aI,aP,aQ⟩:=ht.open_
 have aE:=aH.small
 have aF:=aI.small
 refine enter (n:=8) Tryz.func31 rfl Tryz.ntmps31 kz fun a hE=>?_
 have hW:=WOk.start w Nil
 refine qad [0,1] kz ?_
 refine qah (qa9 hW hE (d:=1) (cs:=[.int .i64 n1,.slice A6 s2.length c7,.bool b3,.slice A8 l4.length c9,.slice ak u5.length al]) kz fun aR aS aT aJ aK aL aa am=>?_)
 refine qak [1] [] [(1,.p 0 0)] aa am fun aU ao=>?_
 refine qae (qaa ?_)
 refine wp_seq ?_
 refine qaz [(1,.p 0 0),(5,.v (.bool b3))] aa ao fun aV ac=>?_
 refine qau ac (b:=b3) kz (fun ae=>?_) (fun ae=>?_)
 ·
  refine qaz [(2,.v (.pointer none))] aa ac fun aW ap=>?_
  refine wp_ret ?_
  refine qaB ?_
  refine qaV ap aa.cells (v:=.pointer none) kz ?_
  have hb_:b3 = true:=by simpa using ae
  subst hb_
  exact ⟨none,dv0,rfl,(fun ad h_=>by cases h_),rfl,(fun h_=>by cases h_),aa.step⟩
 refine wp_skip ?_
 refine qaa ?_
 refine qad [0,1,2,3] kz ?_
 refine qak [0] [1,2,3] [(6,.v (.agg #[.int .i64 n1,.slice A6 s2.length c7,.bool b3,.slice A8 l4.length c9,.slice ak u5.length al]))] aa ac fun aX ar=>?_
 refine qah (qai ar (f:=58) (vs:=[.agg #[.int .i64 n1,.slice A6 s2.length c7,.bool b3,.slice A8 l4.length c9,.slice ak u5.length al]]) (d:=7) kz Tryz.call58 (qbX _ _ _ _ (ht.move aa.step nilM aa.imm) hc) ?_)
 rintro e_ aY ⟨af,rfl,au,ag,ah⟩
 have av:=qaY _ (Step.refl _ Nil) nilM (aa.laid (G:=F) ah) au
 refine ⟨_,rfl,fun aZ aw=>?_⟩
 have ax:=aa.next_nil ah
 have aM:=aa.frN ah
 refine qah (qaw ax aw (d:=3) (cs:=[.string ByteArray.empty,.int .i32 0,.map none]) kz fun ay ba bd aN aO ai aA aB=>?_)
 refine qah (qaj aA aB (oi:=1) (cs:=[.string ((af.f 0).s),.int .i32 ((af.f 1).n),.map af.m]) kz fun bf aj ab aC=>?_)
 refine qae (qaa ?_)
 refine qaz [(2,.p 1 0)] ab aC fun bg aD=>?_
 refine wp_ret ?_
 refine qaV aD ab.cells (v:=.pointer (some ⟨ay,0,none⟩)) kz ?_
 have hb_:b3 = false:=by simpa using ae
 subst hb_
 have hat_:AtF _ (Fp F w) ay 0 [.string ((af.f 0).s),.int .i32 ((af.f 1).n),.map af.m]:=fun j v hj=>⟨.inr (qgl ab 1 rfl kz),ab.cells 1 _ rfl j v hj⟩
 exact ⟨some ⟨ay,0,none⟩,af,rfl,(fun ad h_=>by cases h_; exact ⟨⟨_,_,rfl,hat_⟩,qaY _ (Step.refl _ Nil) nilM qcf (qaY _ (ai.trans aj).step immM (ai.trans aj).to' av)⟩),rfl,(fun _=>ag),ab.step⟩
def qat (v:Int) (T:Tree):Bs:=qa8 (IntKind.i16.wrap v) T
set_option maxHeartbeats 4000000 in
theorem qcy (v:Int) (ct:List Value) (t:Tree) (w:World) (F:Nat → Nat → Prop) (ht:TreeR w F ct t) (hc:qa2 t) (hroom:(qat v t).length + 16 ≤ 1099511627776) :
  Calls Tryz.prog 9 #[.int .i64 v,.agg ct.toArray] w (qdr w 5 (qat v t)):=by
 obtain ⟨n1,s2,b3,l4,u5,A6,c7,A8,c9,ac,ae,fD,rfl,rfl,fE,fF,iD,eY⟩:=ht.open_
 have eZ:=fE.small
 have e5:=fF.small
 unfold qa2 at hc
 obtain ⟨cj0,⟨cj1,cj1e⟩,cj2,cU,_⟩:=hc
 have hsort:=cU.1
 replace hsort:qcV u5:=hsort
 have hul:u5.length ≤ 1000000:=cU.2.1
 refine enter (n:=17) Tryz.func9 rfl Tryz.ntmps9 kz fun a hE=>?_
 have hW:=WOk.start w Nil
 refine qad [0,1] kz ?_
 refine qah (qa9 hW hE (d:=3) (cs:=[.int .i64 n1,.slice A6 s2.length c7,.bool b3,.slice A8 l4.length c9,.slice ac u5.length ae]) kz fun bM iE iF fG fH fI cb dR=>?_)
 refine qak [1] [] [(0,.v (.int .i64 v)),(3,.p 0 0)] cb dR fun iG dS=>?_
 refine qae (qaa ?_)
 refine qad [0,1,2] kz ?_
 refine qak [0] [1,2] [(0,.v (.int .i64 v)),(3,.p 0 0),(6,.v (.agg #[.int .i16 0,.int .i32 0,.slice none 0 0,.pointer none,.map none]))] cb dS fun iH dT=>?_
 refine qah (qa9 cb dT (d:=7) (cs:=[.int .i16 0,.int .i32 0,.slice none 0 0,.pointer none,.map none]) kz fun aj iI iJ fJ fK fL bN dU=>?_)
 refine qak [2] [] [(0,.v (.int .i64 v)),(3,.p 0 0),(5,.p 1 0)] bN dU fun iK dV=>?_
 refine qae (qaa ?_)
 refine qad [0,1,2,3] kz ?_
 refine qak [0,1,2] [3] [(3,.p 0 0),(5,.p 1 0),(8,.p 1 0),(10,.v (.int .i16 (IntKind.i16.wrap v)))] bN dV fun iL dW=>?_
 refine qah (qb6 dW (f:=18) (vs:=[.pointer (some ⟨aj,0,none⟩),.int .i16 (IntKind.i16.wrap v)]) (d:=11) (n':=8) kz Tryz.call18 Tryz.func18 rfl Tryz.ntmps18 kz fun iM dX=>?_)
 have dY:=dX.recast 0 (.v (.pointer (some ⟨aj,0,none⟩))) (.p 1 0) rfl rfl (Nat.le_of_ble_eq_true (n:=2) rfl)
 refine qap [0,1,2,3,4] kz ?_
 refine qak [0,1,2,3] [4] [(5,.v (.int .i16 (IntKind.i16.wrap v))),(7,.p 1 0)] bN dY fun iN dZ=>?_
 refine qah (qaj bN dZ (oi:=1) (cs:=[.int .i16 (IntKind.i16.wrap v),.int .i32 0,.slice none 0 0,.pointer none,.map none]) kz fun iO fM cc d4=>?_)
 refine qae ?_
 refine qda d4 cc.cells (v:=.tuple #[]) kz ?_
 refine ⟨_,rfl,fun iP d5=>?_⟩
 have d6:EnvOk 17 [⟨bM,0,[.int .i64 n1,.slice A6 s2.length c7,.bool b3,.slice A8 l4.length c9,.slice ac u5.length ae],true⟩,⟨aj,0,[.int .i16 (IntKind.i16.wrap v),.int .i32 0,.slice none 0 0,.pointer none,.map none],true⟩] [(11,.v (.tuple #[])),(3,.p 0 0),(5,.p 1 0),(8,.p 1 0),(10,.v (.int .i16 (IntKind.i16.wrap v)))] _:=d5.places (⟨rfl,rfl,⟨rfl,rfl,trivial⟩⟩)
 refine qae (qaa ?_)
 refine qad [0,1,2] kz ?_
 refine qak [0,1] [2] [(5,.p 1 0),(12,.p 1 0),(13,.v (.agg #[.int .i64 n1,.slice A6 s2.length c7,.bool b3,.slice A8 l4.length c9,.slice ac u5.length ae]))] cc d6 fun iQ d7=>?_
 refine qah (qb6 d7 (f:=19) (vs:=[.pointer (some ⟨aj,0,none⟩),.agg #[.int .i64 n1,.slice A6 s2.length c7,.bool b3,.slice A8 l4.length c9,.slice ac u5.length ae]]) (d:=14) (n':=69) kz Tryz.call19 Tryz.func19 rfl Tryz.ntmps19 kz fun iR d8=>?_)
 have d9:=d8.recast 0 (.v (.pointer (some ⟨aj,0,none⟩))) (.p 1 0) rfl rfl (Nat.le_of_ble_eq_true (n:=2) rfl)
 refine qad [0] kz ?_
 refine qah (qa9 cc d9 (d:=3) (cs:=[.int .i64 n1,.slice A6 s2.length c7,.bool b3,.slice A8 l4.length c9,.slice ac u5.length ae]) kz fun bO iS iT fN fO fP aV ea=>?_)
 refine qae (qaa ?_)
 refine qad [0,1,2,3,4,5,6,7] kz ?_
 refine qak [0,1] [2,3,4,5,6,7] [(0,.p 1 0),(3,.p 2 0),(8,.p 1 0),(9,.v (.agg #[.int .i64 n1,.slice A6 s2.length c7,.bool b3,.slice A8 l4.length c9,.slice ac u5.length ae]))] aV ea fun iU eb=>?_
 refine qah (qai eb (f:=29) (vs:=[.agg #[.int .i64 n1,.slice A6 s2.length c7,.bool b3,.slice A8 l4.length c9,.slice ac u5.length ae],.int .i64 0]) (d:=10) kz Tryz.call29 (iAt _ _ 0 _ _ (ht.move aV.step nilM aV.imm)) ?_)
 rintro e_ iV ⟨fQ,rfl,ec,aY⟩
 have ce:=ec.move aY nilM (fun b o h_ hb_=>aV.laid (G:=F) aY b o (.inl h_) (Nat.lt_of_lt_of_le hb_ aY.size))
 obtain ⟨ap,iW,iX,iY,iZ,i6,i7,ja,jb,jc,jd,fR,ee,bS,fS,fT,je,jf⟩:=ce.open_
 rw [bS] at ce
 have e6:=fS.small
 have e7:=fT.small
 rw [bS]
 refine ⟨_,rfl,fun jg ef=>?_⟩
 have cg:=aV.next_nil aY
 have e9:=aV.frN aY
 refine qak [3,4,5,6] [7] [(0,.p 1 0),(3,.p 2 0),(12,.v (.int .i32 (IntKind.i32.wrap ap))),(14,.p 1 1)] cg ef fun fU cl=>?_
 refine qah (qaj cg cl (oi:=1) (cs:=[.int .i16 (IntKind.i16.wrap v),.int .i32 (IntKind.i32.wrap ap),.slice none 0 0,.pointer none,.map none]) kz fun fV fa ar cm=>?_)
 refine qae (qaa ?_)
 refine wp_seq ?_
 refine qad [0,1,2,3] kz ?_
 refine qak [0] [1,2,3] [(0,.p 1 0),(3,.p 2 0),(15,.v (.agg #[.int .i64 n1,.slice A6 s2.length c7,.bool b3,.slice A8 l4.length c9,.slice ac u5.length ae]))] ar cm fun fW cq=>?_
 refine qah (qai cq (f:=29) (vs:=[.agg #[.int .i64 n1,.slice A6 s2.length c7,.bool b3,.slice A8 l4.length c9,.slice ac u5.length ae],.int .i64 1]) (d:=16) kz Tryz.call29 (iAt _ _ 1 _ _ (ht.move ar.step nilM ar.imm)) ?_)
 rintro e_ fX ⟨fb,rfl,cr,aA⟩
 have bT:=cr.move aA nilM (fun b o h_ hb_=>ar.laid (G:=F) aA b o (.inl h_) (Nat.lt_of_lt_of_le hb_ aA.size))
 obtain ⟨fY,fZ,bP,f0,f5,f7,f8,f9,ga,gb,gc,fc,bU,aZ,eg,eh,gd,ge⟩:=bT.open_
 rw [aZ] at bT
 have ei:=eg.small
 have ej:=eh.small
 rw [aZ]
 refine ⟨_,rfl,fun gf cu=>?_⟩
 have af:=ar.next_nil aA
 have fe:=ar.frN aA
 refine qak [2,3] [] [(0,.p 1 0),(3,.p 2 0),(18,.v (.bool (!bP)))] af cu fun gg ba=>?_
 refine qae (qaa ?_)
 refine qeg (Mid:=fun a_ w_=>∃ (A_:Option Addr) (c_:Nat) (f_:Nat → DV),A_.isNone = Tree.null (Tree.at_ (Tree.mk n1 s2 b3 l4 u5) 1) ∧ LstR w_ (Imm F w w_ [⟨bM,0,[.int .i64 n1,.slice A6 s2.length c7,.bool b3,.slice A8 l4.length c9,.slice ac u5.length ae],true⟩,⟨aj,0,[.int .i16 (IntKind.i16.wrap v),.int .i32 (IntKind.i32.wrap ap),.slice A_ ((lst (Tree.at_ (Tree.mk n1 s2 b3 l4 u5) 1)).length) c_,.pointer none,.map none],true⟩,⟨bO,0,[.int .i64 n1,.slice A6 s2.length c7,.bool b3,.slice A8 l4.length c9,.slice ac u5.length ae],true⟩] []) 22 qbi qaC qaO A_ c_ f_ (lst (Tree.at_ (Tree.mk n1 s2 b3 l4 u5) 1)) ∧ LInv af 69 [⟨bM,0,[.int .i64 n1,.slice A6 s2.length c7,.bool b3,.slice A8 l4.length c9,.slice ac u5.length ae],true⟩,⟨aj,0,[.int .i16 (IntKind.i16.wrap v),.int .i32 (IntKind.i32.wrap ap),.slice A_ ((lst (Tree.at_ (Tree.mk n1 s2 b3 l4 u5) 1)).length) c_,.pointer none,.map none],true⟩,⟨bO,0,[.int .i64 n1,.slice A6 s2.length c7,.bool b3,.slice A8 l4.length c9,.slice ac u5.length ae],true⟩] [] [(0,.p 1 0),(3,.p 2 0)] a_ w_) ?_ ?_
 ·
  refine qau ba (b:=!bP) kz (fun bd=>?_) (fun bd=>?_)
  ·
   have hnull_:Tree.null (Tree.at_ (Tree.mk n1 s2 b3 l4 u5) 1) = false:=by rw [bU]; show bP = false; simpa using bd
   refine qad [0,1,2,3,4,5,6,7,8] kz ?_
   refine qak [0,1] [2,3,4,5,6,7,8] [(0,.p 1 0),(3,.p 2 0),(19,.p 1 0),(20,.v (.agg #[.int .i64 n1,.slice A6 s2.length c7,.bool b3,.slice A8 l4.length c9,.slice ac u5.length ae]))] af ba fun gh cv=>?_
   refine qah (qai cv (f:=29) (vs:=[.agg #[.int .i64 n1,.slice A6 s2.length c7,.bool b3,.slice A8 l4.length c9,.slice ac u5.length ae],.int .i64 1]) (d:=21) kz Tryz.call29 (iAt _ _ 1 _ _ (ht.move af.step nilM af.imm)) ?_)
   rintro e_ gi ⟨ff,rfl,cw,aB⟩
   have bV:=cw.move aB nilM (fun b o h_ hb_=>af.laid (G:=F) aB b o (.inl h_) (Nat.lt_of_lt_of_le hb_ aB.size))
   obtain ⟨gj,gk,gl,aN,gm,gn,gp,gq,gt,gu,gv,fg,cy,bf,ek,em,gw,gx⟩:=bV.open_
   rw [bf] at bV
   have eo:=ek.small
   have ep:=em.small
   rw [bf]
   refine ⟨_,rfl,fun gy cz=>?_⟩
   have bW:=af.next_nil aB
   have cA:=af.frN aB
   have hl3_:lst (Tree.at_ (Tree.mk n1 s2 b3 l4 u5) 1) = aN:=by rw [qc5 hnull_,cy]; rfl
   have fh:aN.length ≤ 1000000:=by have h_:=cj1; rw [hl3_] at h_; exact h_
   refine qak [3,4] [5,6,7,8] [(0,.p 1 0),(3,.p 2 0),(19,.p 1 0),(23,.v (.int .i64 ((aN.length:Nat):Int)))] bW cz fun gz cB=>?_
   refine qah (qcn bW cB (d:=24) (j:=aN.length) (t:=52) (e:=76) (size:=22) (bytes:=80) kz kz rfl (rfl) (by omega) fun cd gA gB fi fj cC bX cD=>?_)
   refine qak [6,7] [8] [(0,.p 1 0),(3,.p 2 0),(24,.v (.slice (some ⟨cd,0,none⟩) 0 aN.length)),(26,.p 1 2)] bX cD fun gC cE=>?_
   refine qah (qaj bX cE (oi:=1) (cs:=[.int .i16 (IntKind.i16.wrap v),.int .i32 (IntKind.i32.wrap ap),.slice (some ⟨cd,0,none⟩) 0 aN.length,.pointer none,.map none]) kz fun gD cG au cH=>?_)
   refine qae (qaa ?_)
   refine qad [0,1,2,3,4] kz ?_
   refine qak [0] [1,2,3,4] [(0,.p 1 0),(3,.p 2 0),(27,.v (.agg #[.int .i64 n1,.slice A6 s2.length c7,.bool b3,.slice A8 l4.length c9,.slice ac u5.length ae]))] au cH fun gE cI=>?_
   refine qah (qai cI (f:=29) (vs:=[.agg #[.int .i64 n1,.slice A6 s2.length c7,.bool b3,.slice A8 l4.length c9,.slice ac u5.length ae],.int .i64 1]) (d:=28) kz Tryz.call29 (iAt _ _ 1 _ _ (ht.move au.step nilM au.imm)) ?_)
   rintro e_ gF ⟨fk,rfl,cJ,aC⟩
   have bY:=cJ.move aC nilM (fun b o h_ hb_=>au.laid (G:=F) aC b o (.inl h_) (Nat.lt_of_lt_of_le hb_ aC.size))
   obtain ⟨gG,gH,gI,ab,gJ,gK,gL,ay,aD,gM,gN,fl,cK,bg,eu,cL,ev,gO⟩:=bY.open_
   rw [bg] at bY
   have ew:=eu.small
   have ey:=cL.small
   rw [bg]
   refine ⟨_,rfl,fun gP cM=>?_⟩
   have bh:=au.next_nil aC
   have cN:=au.frN aC
   have hl3_:lst (Tree.at_ (Tree.mk n1 s2 b3 l4 u5) 1) = ab:=by rw [qc5 hnull_,cK]; rfl
   have fm:ab.length ≤ 1000000:=by have h_:=cj1; rw [hl3_] at h_; exact h_
   refine qak [2,3,4] [] [(0,.p 1 0),(3,.p 2 0),(29,.v (.slice ay ab.length aD)),(30,.v (.int .i64 ((ab.length:Nat):Int))),(31,.v (.int .i64 0))] bh cM fun gQ cO=>?_
   refine qae (qaa ?_)
   refine wp_block ?_
   refine wp_loop_ghost (fun n_ a_ w_=>∃ (k:Nat) (A_:Option Addr) (c_:Nat) (xs_:List Value) (ds_:List DV),n_ = ab.length - k ∧ k ≤ ab.length ∧ (A_.isNone = false) ∧ (RowL w_ (Imm F w w_ [⟨bM,0,[.int .i64 n1,.slice A6 s2.length c7,.bool b3,.slice A8 l4.length c9,.slice ac u5.length ae],true⟩,⟨aj,0,[.int .i16 (IntKind.i16.wrap v),.int .i32 (IntKind.i32.wrap ap),.slice A_ k c_,.pointer none,.map none],true⟩,⟨bO,0,[.int .i64 n1,.slice A6 s2.length c7,.bool b3,.slice A8 l4.length c9,.slice ac u5.length ae],true⟩] [⟨A_,c_,76,22,k,xs_⟩]) 22 qbi qaC qaO xs_ ds_ (ab.take k)) ∧ LInv bh 69 [⟨bM,0,[.int .i64 n1,.slice A6 s2.length c7,.bool b3,.slice A8 l4.length c9,.slice ac u5.length ae],true⟩,⟨aj,0,[.int .i16 (IntKind.i16.wrap v),.int .i32 (IntKind.i32.wrap ap),.slice A_ k c_,.pointer none,.map none],true⟩,⟨bO,0,[.int .i64 n1,.slice A6 s2.length c7,.bool b3,.slice A8 l4.length c9,.slice ac u5.length ae],true⟩] [⟨A_,c_,76,22,k,xs_⟩] [(0,.p 1 0),(3,.p 2 0),(29,.v (.slice ay ab.length aD)),(30,.v (.int .i64 ((ab.length:Nat):Int))),(31,.v (.int .i64 ((k:Nat):Int)))] a_ w_) (ab.length) ⟨0,(some ⟨cd,0,none⟩),aN.length,[],[],by omega,by omega,rfl,RowL.nil qa6,cO.pk,bh,Fr.refl _ _ _⟩ ?_
   rintro gR gS gT ⟨k,A_,c_,xs_,ds_,fo,fp,hA,hR,cP,aQ,av⟩
   refine qaz [(0,.p 1 0),(3,.p 2 0),(29,.v (.slice ay ab.length aD)),(30,.v (.int .i64 ((ab.length:Nat):Int))),(31,.v (.int .i64 ((k:Nat):Int))),(32,.v (.bool (decide (((k:Nat):Int) < ((ab.length:Nat):Int)))))] aQ cP fun gU bi=>?_
   refine wp_seq ?_
   refine qau bi (b:=decide (((k:Nat):Int) < ((ab.length:Nat):Int))) kz (fun bj=>?_) (fun bj=>?_)
   ·
    have fq:=of_decide_eq_true bj
    refine wp_skip ?_
    refine qaa ?_
    refine wp_seq ?_
    refine wp_block ?_
    refine qad [0,1,2,3] kz ?_
    obtain ⟨ez,eA,cQ,fr,bk⟩:=Slots.get cL (i:=k) (by omega)
    obtain ⟨eB,bn⟩:∃ x,ab[k]? = some x:=⟨_,List.getElem?_eq_getElem (by omega)⟩
    have bp:=ev k eB bn
    obtain ⟨bq,br,bt,bu,bv,bw,bz,bA,bB,bC,bD,ft,rfl,bE,eC,eD,gV,gW⟩:=bp.open_
    rw [bE] at bp
    have eE:=eC.small
    have eF:=eD.small
    rw [bE] at bk
    refine qah (qaM bi (t:=36) (A:=ay) (m:=ab.length) (q:=((k:Nat):Int)) (d:=33) kz (e:=39) (size:=5) (bytes:=88) kz cQ rfl (by omega) fun gX cR=>?_)
    refine qah (qa0 cR (t:=39) (b:=ez) (o:=eA + k * 5) (d:=34) kz (cs:=[.int .i64 bq,.slice bw br.length bz,.bool bt,.slice bA bu.length bB,.slice bC bv.length bD]) (v:=.agg #[.int .i64 bq,.slice bw br.length bz,.bool bt,.slice bA bu.length bB,.slice bC bv.length bD]) kz (AtF.move bk av.step immM av.to').at_ fun gY cS=>?_)
    refine qah (qaw aQ cS (d:=5) (cs:=[.int .i64 0,.slice none 0 0,.bool false,.slice none 0 0,.slice none 0 0]) kz fun gZ hC hJ fu fv aE cT cV=>?_)
    refine qah (qaj cT cV (oi:=3) (cs:=[.int .i64 bq,.slice bw br.length bz,.bool bt,.slice bA bu.length bB,.slice bC bv.length bD]) kz fun hK aF cW cX=>?_)
    refine qae (qaa ?_)
    refine qcB 11 kz cW fun hP aG bF cY=>?_
    refine qbg [0,1,2,3,4,5] [(0,.p 1 0),(3,.p 2 0),(29,.v (.slice ay ab.length aD)),(30,.v (.int .i64 ((ab.length:Nat):Int))),(31,.v (.int .i64 ((k:Nat):Int))),(35,.p 1 0),(39,.v (.slice A_ k c_)),(40,.v (.agg #[.int .i64 bq,.slice bw br.length bz,.bool bt,.slice bA bu.length bB,.slice bC bv.length bD]))] 6 (qaf (qab (qab (qaf (qab qal))))) (fun _ h=>h.cells) cY cX fun hX cZ=>?_
    refine qaH (i:=6) kz (qai cZ (f:=30) (vs:=[.agg #[.int .i64 bq,.slice bw br.length bz,.bool bt,.slice bA bu.length bB,.slice bC bv.length bD]]) (d:=41) kz Tryz.call30 (qch _ _ _ _ (bp.move (((av.trans aE).trans aF).trans aG).step immM (((av.trans aE).trans aF).trans aG).to') (cj1e _ (by rw [hl3_]; exact List.mem_of_getElem? bn))) ?_)
    rintro e_ hY ⟨aa,rfl,c5,bQ,bG⟩
    have c8:=qa6 _ (Step.refl _ Nil) nilM (bF.laid (G:=F) bG) c5
    refine ⟨_,rfl,fun hZ da=>?_⟩
    have bZ:=bF.next_nil bG
    have al:=bF.frN bG
    have db:=TT.ofW al bZ
    refine ⟨fun _=>db,?_⟩
    refine qaH (i:=7) kz (qb1 bZ da (e:=76) (size:=22) (len:=1) (cs:=[.int .i16 ((aa.f 0).n),.pointer ((aa.f 1).A),qac ((aa.f 2).o.getD 0 0),qac ((aa.f 2).o.getD 1 0),qac ((aa.f 2).o.getD 2 0),qac ((aa.f 2).o.getD 3 0),qac ((aa.f 2).o.getD 4 0),qac ((aa.f 2).o.getD 5 0),qac ((aa.f 2).o.getD 6 0),qac ((aa.f 2).o.getD 7 0),qac ((aa.f 2).o.getD 8 0),qac ((aa.f 2).o.getD 9 0),qac ((aa.f 2).o.getD 10 0),qac ((aa.f 2).o.getD 11 0),qac ((aa.f 2).o.getD 12 0),qac ((aa.f 2).o.getD 13 0),qac ((aa.f 2).o.getD 14 0),qac ((aa.f 2).o.getD 15 0),.bool ((aa.f 3).b),.slice ((aa.f 4).A) ((aa.f 4).l) ((aa.f 4).c),.int .i32 ((aa.f 5).n),.map aa.m]) (d:=42) kz kz fun eG ia ib fw fx ak aR dc=>?_)
    have de:=TT.ofW (al.trans ak) aR
    refine ⟨fun _=>de,?_⟩
    refine qaH (i:=8) kz (qaU aR dc (k:=0) (d:=43) (t:=52) (e:=76) (size:=22) (bytes:=80) (A:=A_) (As:=(some ⟨eG,0,none⟩)) (m0:=k) (c:=c_) (m:=1) (cs:=1) (xs:=xs_) (news:=[.int .i16 ((aa.f 0).n),.pointer ((aa.f 1).A),qac ((aa.f 2).o.getD 0 0),qac ((aa.f 2).o.getD 1 0),qac ((aa.f 2).o.getD 2 0),qac ((aa.f 2).o.getD 3 0),qac ((aa.f 2).o.getD 4 0),qac ((aa.f 2).o.getD 5 0),qac ((aa.f 2).o.getD 6 0),qac ((aa.f 2).o.getD 7 0),qac ((aa.f 2).o.getD 8 0),qac ((aa.f 2).o.getD 9 0),qac ((aa.f 2).o.getD 10 0),qac ((aa.f 2).o.getD 11 0),qac ((aa.f 2).o.getD 12 0),qac ((aa.f 2).o.getD 13 0),qac ((aa.f 2).o.getD 14 0),qac ((aa.f 2).o.getD 15 0),.bool ((aa.f 3).b),.slice ((aa.f 4).A) ((aa.f 4).l) ((aa.f 4).c),.int .i32 ((aa.f 5).n),.map aa.m]) kz kz rfl (qbL (aR.own 1 _ rfl) (qbq kz)) (qb0 (aR.own 1 _ rfl)) (by omega) fun aW aX ic ig am aS df=>?_)
    have dg:=TT.ofW ((al.trans ak).trans am) aS
    refine ⟨fun _=>dg,?_⟩
    refine qaH (i:=9) kz (qcD [0,3,29,30,31,43,44] aS.cells df (env':=[(0,.p 1 0),(3,.p 2 0),(29,.v (.slice ay ab.length aD)),(30,.v (.int .i64 ((ab.length:Nat):Int))),(31,.v (.int .i64 ((k:Nat):Int))),(43,.v (.slice aW (k + 1) aX)),(44,.p 1 0)]) kz fun ii dh=>?_)
    have b0:=TT.ofW ((al.trans ak).trans am) aS
    refine ⟨fun _=>b0,?_⟩
    refine qbg [10] [(0,.p 1 0),(3,.p 2 0),(29,.v (.slice ay ab.length aD)),(30,.v (.int .i64 ((ab.length:Nat):Int))),(31,.v (.int .i64 ((k:Nat):Int))),(43,.v (.slice aW (k + 1) aX)),(45,.p 1 2)] 1 (qaf (qab (qab (qaf (qab qal))))) (fun _ h=>h.cells) b0 dh fun ij di=>?_
    refine qaH (i:=11) kz (qaj aS di (oi:=1) (cs:=[.int .i16 (IntKind.i16.wrap v),.int .i32 (IntKind.i32.wrap ap),.slice aW (k + 1) aX,.pointer none,.map none]) kz fun ik aH b5 dj=>?_)
    refine ⟨fun h=>absurd rfl h,?_⟩
    refine qbb kz ?_ _
    refine qas ?_
    refine qaa ?_
    refine qap [0,1] kz ?_
    refine qak [0,1] [] [(0,.p 1 0),(3,.p 2 0),(29,.v (.slice ay ab.length aD)),(30,.v (.int .i64 ((ab.length:Nat):Int))),(31,.v (.int .i64 (IntKind.i64.wrap (((k:Nat):Int) + 1))))] b5 dj fun il dl=>?_
    refine qae (qaa ?_)
    obtain ⟨b6,dp,aI⟩:=b5.cutB dl 3 [⟨bM,0,[.int .i64 n1,.slice A6 s2.length c7,.bool b3,.slice A8 l4.length c9,.slice ac u5.length ae],true⟩,⟨aj,0,[.int .i16 (IntKind.i16.wrap v),.int .i32 (IntKind.i32.wrap ap),.slice aW (k + 1) aX,.pointer none,.map none],true⟩,⟨bO,0,[.int .i64 n1,.slice A6 s2.length c7,.bool b3,.slice A8 l4.length c9,.slice ac u5.length ae],true⟩] [(0,.p 1 0),(3,.p 2 0),(29,.v (.slice ay ab.length aD)),(30,.v (.int .i64 ((ab.length:Nat):Int))),(31,.v (.int .i64 (IntKind.i64.wrap (((k:Nat):Int) + 1))))]
    obtain ⟨b8,aJ⟩:=dp.cutR 1 [⟨aW,aX,76,22,k + 1,xs_ ++ [.int .i16 ((aa.f 0).n),.pointer ((aa.f 1).A),qac ((aa.f 2).o.getD 0 0),qac ((aa.f 2).o.getD 1 0),qac ((aa.f 2).o.getD 2 0),qac ((aa.f 2).o.getD 3 0),qac ((aa.f 2).o.getD 4 0),qac ((aa.f 2).o.getD 5 0),qac ((aa.f 2).o.getD 6 0),qac ((aa.f 2).o.getD 7 0),qac ((aa.f 2).o.getD 8 0),qac ((aa.f 2).o.getD 9 0),qac ((aa.f 2).o.getD 10 0),qac ((aa.f 2).o.getD 11 0),qac ((aa.f 2).o.getD 12 0),qac ((aa.f 2).o.getD 13 0),qac ((aa.f 2).o.getD 14 0),qac ((aa.f 2).o.getD 15 0),.bool ((aa.f 3).b),.slice ((aa.f 4).A) ((aa.f 4).l) ((aa.f 4).c),.int .i32 ((aa.f 5).n),.map aa.m]⟩]
    have dq:IntKind.i64.wrap (((k:Nat):Int) + 1) = ((k + 1:Nat):Int):=qaN (by omega)
    rw [dq] at b6
    exact ⟨ab.length - (k + 1),by omega,k + 1,aW,aX,xs_ ++ [Value.int .i16 ((aa.f 0).n),.pointer ((aa.f 1).A),qac ((aa.f 2).o.getD 0 0),qac ((aa.f 2).o.getD 1 0),qac ((aa.f 2).o.getD 2 0),qac ((aa.f 2).o.getD 3 0),qac ((aa.f 2).o.getD 4 0),qac ((aa.f 2).o.getD 5 0),qac ((aa.f 2).o.getD 6 0),qac ((aa.f 2).o.getD 7 0),qac ((aa.f 2).o.getD 8 0),qac ((aa.f 2).o.getD 9 0),qac ((aa.f 2).o.getD 10 0),qac ((aa.f 2).o.getD 11 0),qac ((aa.f 2).o.getD 12 0),qac ((aa.f 2).o.getD 13 0),qac ((aa.f 2).o.getD 14 0),qac ((aa.f 2).o.getD 15 0),.bool ((aa.f 3).b),.slice ((aa.f 4).A) ((aa.f 4).l) ((aa.f 4).c),.int .i32 ((aa.f 5).n),.map aa.m],(ds_ ++ [aa]),rfl,by omega,qdq b8 (k:=0) rfl (by omega),RowL.snoc (d:=aa) (hR.move ((((((((aE.trans aF).trans aG).trans al).trans ak).trans am).trans aH).trans aI).trans aJ).step immM ((((((((aE.trans aF).trans aG).trans al).trans ak).trans am).trans aH).trans aI).trans aJ).to') bn rfl (qa6 _ ((((ak.trans am).trans aH).trans aI).trans aJ).step immM ((((ak.trans am).trans aH).trans aI).trans aJ).to' c8) bQ,b6.pk,b8,(((((((((av.trans aE).trans aF).trans aG).trans al).trans ak).trans am).trans aH).trans aI).trans aJ)⟩
   have fy:=of_decide_eq_false bj
   refine wp_exit ?_
   refine qar ?_
   refine qar ?_
   refine qaE ?_
   refine qaa ?_
   have hk_:k = (lst (Tree.at_ (Tree.mk n1 s2 b3 l4 u5) 1)).length:=by rw [hl3_]; omega
   subst k
   have hL_:=LstR.of aQ (k:=0) (rs':=[]) rfl hR (by rw [hl3_]) qcb (by omega)
   rw [← hl3_] at hL_
   obtain ⟨dr,dt⟩:=aQ.cutR 0 []
   exact ⟨_,_,_,by rw [hnull_]; exact hA,hL_,bi.pk,dr,(((((cA.trans cC).trans cG).trans cN).trans av).trans dt)⟩
  refine wp_skip ?_
  refine qaa ?_
  have hn_:Tree.null (Tree.at_ (Tree.mk n1 s2 b3 l4 u5) 1) = true:=by rw [bU]; show bP = true; simpa using bd
  have hl_:=qfk hn_
  exact ⟨none,0,fun _=>dv0,by rw [hn_]; rfl,by rw [hl_]; exact LstR.nil qa6,by rw [hl_]; exact ⟨ba.pk,af,Fr.refl _ _ _⟩⟩
 rintro im io ⟨ah,ai,aO,du,bH,dv,aw,fz⟩
 refine qad [0,1,2,3,4,5,6] kz ?_
 refine qak [0,1] [2,3,4,5,6] [(0,.p 1 0),(3,.p 2 0),(47,.p 1 0),(48,.v (.agg #[.int .i64 n1,.slice A6 s2.length c7,.bool b3,.slice A8 l4.length c9,.slice ac u5.length ae]))] aw dv fun ip dw=>?_
 refine qah (qai dw (f:=29) (vs:=[.agg #[.int .i64 n1,.slice A6 s2.length c7,.bool b3,.slice A8 l4.length c9,.slice ac u5.length ae],.int .i64 2]) (d:=49) kz Tryz.call29 (iAt _ _ 2 _ _ (ht.move aw.step nilM aw.imm)) ?_)
 rintro e_ iq ⟨fA,rfl,dx,aK⟩
 have bI:=dx.move aK nilM (fun b o h_ hb_=>aw.laid (G:=F) aK b o (.inl h_) (Nat.lt_of_lt_of_le hb_ aK.size))
 obtain ⟨eH,eI,eJ,eK,eL,eM,eN,eO,eP,eQ,eR,fB,fC,bJ,eS,eT,ir,iu⟩:=bI.open_
 rw [bJ] at bI
 have eU:=eS.small
 have eV:=eT.small
 rw [bJ]
 refine ⟨_,rfl,fun iv dy=>?_⟩
 have bK:=aw.next_nil aK
 have aT:=aw.frN aK
 refine qah (qai dy (f:=31) (vs:=[.agg #[.int .i64 eH,.slice eM eI.length eN,.bool eJ,.slice eO eK.length eP,.slice eQ eL.length eR]]) (d:=50) kz Tryz.call31 (qbY _ _ _ _ bI cj2) ?_)
 rintro e_ iw ⟨ag,aP,rfl,dA,dB,bR,bL⟩
 have dC:=qba _ (Step.refl _ Nil) nilM (bK.laid (G:=F) bL) dA
 refine ⟨_,rfl,fun ix dD=>?_⟩
 have ca:=bK.next_nil bL
 have aU:=bK.frN bL
 refine qak [4,5] [6] [(0,.p 1 0),(3,.p 2 0),(50,.v (.pointer ag)),(52,.p 1 3)] ca dD fun iy dE=>?_
 refine qah (qaj ca dE (oi:=1) (cs:=[.int .i16 (IntKind.i16.wrap v),.int .i32 (IntKind.i32.wrap ap),.slice ah ((lst (Tree.at_ (Tree.mk n1 s2 b3 l4 u5) 1)).length) ai,.pointer ag,.map none]) kz fun eW ax aL dF=>?_)
 refine qae (qaa ?_)
 refine qaz [(0,.p 1 0),(54,.v (.slice ac u5.length ae)),(55,.v (.int .i64 ((u5.length:Nat):Int))),(56,.v (.int .i64 0))] aL dF fun iz dG=>?_
 refine wp_block ?_
 have dH:=qgl aL 1 rfl kz
 have dI:=dG.recast 0 (.p 1 0) (.v (.pointer (some ⟨aj,0,none⟩))) rfl rfl trivial
 have dJ:=(dI.pick (ks:=[0,54,55,56]) (env':=[(0,.v (.pointer (some ⟨aj,0,none⟩))),(54,.v (.slice ac u5.length ae)),(55,.v (.int .i64 ((u5.length:Nat):Int))),(56,.v (.int .i64 0))]) kz).cutTb 0 kz
 refine wp_loop_ghost (fun q a_ w_=>∃ (j:Nat) (m_:Option Nat),q = u5.length - j ∧ j ≤ u5.length ∧ EnvOk 69 [] [(0,.v (.pointer (some ⟨aj,0,none⟩))),(54,.v (.slice ac u5.length ae)),(55,.v (.int .i64 ((u5.length:Nat):Int))),(56,.v (.int .i64 ((j:Nat):Int)))] a_ ∧ TL w eW w_ F aj 4 [.int .i16 (IntKind.i16.wrap v),.int .i32 (IntKind.i32.wrap ap),.slice ah ((lst (Tree.at_ (Tree.mk n1 s2 b3 l4 u5) 1)).length) ai,.pointer ag,.map none] m_ (u5.take j)) u5.length
  ⟨0,none,by omega,by omega,dJ,TL.start aL 1 rfl rfl⟩ ?_
 rintro q aq wq ⟨j,m_,rfl,hj,hE2,hT⟩
 have hWq:=WOk.start wq Nil
 refine qaz [(0,.v (.pointer (some ⟨aj,0,none⟩))),(54,.v (.slice ac u5.length ae)),(55,.v (.int .i64 ((u5.length:Nat):Int))),(56,.v (.int .i64 ((j:Nat):Int))),(57,.v (.bool (decide (((j:Nat):Int) < ((u5.length:Nat):Int)))))] hWq hE2 fun aq2 hE3=>wp_seq ?_
 refine qau hE3 (b:=decide (((j:Nat):Int) < ((u5.length:Nat):Int))) kz (fun hc=>?_) (fun hc=>?_)
 ·have hlt:j < u5.length:=by have:=of_decide_eq_true hc; omega
  refine wp_skip (qaa (wp_seq (wp_block ?_)))
  obtain ⟨⟨k,x⟩,hu⟩:∃ y,u5[j]? = some y:=⟨_,List.getElem?_eq_getElem hlt⟩
  obtain ⟨bb,bo,xA,xc,hA,hat,hxo,hk⟩:=qgk eY hu
  refine qad [0,1,2,3] kz ?_
  refine qah (qaM hE3 (t:=37) (e:=65) (size:=2) (bytes:=32) (d:=58) (b:=bb) (o:=bo) (m:=u5.length) (j:=j) kz kz hA rfl hlt fun aq3 hE4=>?_)
  refine qah (qa0 hE4 (t:=65) (d:=59) (cs:=[.int .u32 k,.slice xA x.length xc]) (v:=.agg #[.int .u32 k,.slice xA x.length xc]) kz kz (hat.step_nil hT.step) fun aq4 hE5=>?_)
  refine qah (qaw hWq hE5 (d:=7) (cs:=[.int .u32 0,.slice none 0 0]) kz fun bx aq5 wq2 hbx hbx0 hFq2 hWq2 hE6=>?_)
  refine qah (qaj hWq2 hE6 (oi:=0) (cs:=[.int .u32 k,.slice xA x.length xc]) kz fun wq3 hFq3 hWq3 hE7=>qae (qaa ?_))
  have hWq4:=hWq3.drew
  refine qd3 (fun wz=>CellsOk wz [⟨bx,0,[.int .u32 k,.slice xA x.length xc],true⟩]) 8 kz ?_
  refine qbg [0,1,2,3,4,5,6] [(0,.v (.pointer (some ⟨aj,0,none⟩))),(54,.v (.slice ac u5.length ae)),(55,.v (.int .i64 ((u5.length:Nat):Int))),(56,.v (.int .i64 ((j:Nat):Int))),(62,.v (.pointer (some ⟨aj,4,none⟩))),(64,.v (.int .u32 k)),(66,.v (.slice xA x.length xc))] 1 (qaf (qab (qab (qaf qal)))) (fun _ h=>h) hWq4.cells hE7 fun aq6 hE8=>?_
  refine qaH (i:=7) kz (qai hE8 (f:=32) (vs:=[.pointer (some ⟨aj,4,none⟩),.int .u32 k,.slice xA x.length xc]) (d:=67) kz Tryz.call32 ((hT.move hWq4.step).set dH kz hsort hu hxo hk) ?_)
  rintro e_ wq5 ⟨rfl,hS5,r,hT5⟩
  refine ⟨_,rfl,fun aq7 hE9=>⟨fun _=>hT.keeps (off:=4) kz hS5 hWq4.cells (fun ob hm=>by rw [List.mem_singleton.1 hm]; exact Nat.le_of_eq hbx.symm),qbb kz (qas (qaa ?_)) _⟩⟩
  have eX:=(hE9.pick (ks:=[0,54,55,56]) (env':=[(0,.v (.pointer (some ⟨aj,0,none⟩))),(54,.v (.slice ac u5.length ae)),(55,.v (.int .i64 ((u5.length:Nat):Int))),(56,.v (.int .i64 ((j:Nat):Int)))]) kz).cutTb 0 kz
  refine qap [0,1] kz (qak [0,1] [] [(0,.v (.pointer (some ⟨aj,0,none⟩))),(54,.v (.slice ac u5.length ae)),(55,.v (.int .i64 ((u5.length:Nat):Int))),(56,.v (.int .i64 (IntKind.i64.wrap (((j:Nat):Int) + 1))))] (WOk.start wq5 Nil) eX fun aq8 dK=>qae (qaa ?_))
  rw [qaN (by omega)] at dK
  exact ⟨u5.length - (j + 1),by omega,j + 1,some r,rfl,by omega,dK,hT5⟩
 obtain rfl:j = u5.length:=by have:=of_decide_eq_false hc; omega
 refine wp_exit (qar (qar (qaE ?_)))
 rw [List.take_length] at hT
 obtain ⟨aM,ao⟩:=hT.tab aL 1 [⟨bM,0,[.int .i64 n1,.slice A6 s2.length c7,.bool b3,.slice A8 l4.length c9,.slice ac u5.length ae],true⟩,⟨aj,0,[.int .i16 (IntKind.i16.wrap v),.int .i32 (IntKind.i32.wrap ap),.slice ah ((lst (Tree.at_ (Tree.mk n1 s2 b3 l4 u5) 1)).length) ai,.pointer ag,.map m_],true⟩,⟨bO,0,[.int .i64 n1,.slice A6 s2.length c7,.bool b3,.slice A8 l4.length c9,.slice ac u5.length ae],true⟩] rfl
 have dL:=hT.mapImm aL aM ao hsort (qdP eY)
 have dM:EnvOk 69 [⟨bM,0,[.int .i64 n1,.slice A6 s2.length c7,.bool b3,.slice A8 l4.length c9,.slice ac u5.length ae],true⟩,⟨aj,0,[.int .i16 (IntKind.i16.wrap v),.int .i32 (IntKind.i32.wrap ap),.slice ah ((lst (Tree.at_ (Tree.mk n1 s2 b3 l4 u5) 1)).length) ai,.pointer ag,.map m_],true⟩,⟨bO,0,[.int .i64 n1,.slice A6 s2.length c7,.bool b3,.slice A8 l4.length c9,.slice ac u5.length ae],true⟩] [] _:=(hE3.retable [⟨bM,0,[.int .i64 n1,.slice A6 s2.length c7,.bool b3,.slice A8 l4.length c9,.slice ac u5.length ae],true⟩,⟨aj,0,[.int .i16 (IntKind.i16.wrap v),.int .i32 (IntKind.i32.wrap ap),.slice ah ((lst (Tree.at_ (Tree.mk n1 s2 b3 l4 u5) 1)).length) ai,.pointer ag,.map m_],true⟩,⟨bO,0,[.int .i64 n1,.slice A6 s2.length c7,.bool b3,.slice A8 l4.length c9,.slice ac u5.length ae],true⟩]).pk
 refine qda dM aM.cells (v:=.tuple #[]) kz ?_
 refine ⟨_,rfl,fun iA dN=>?_⟩
 have dO:EnvOk 17 [⟨bM,0,[.int .i64 n1,.slice A6 s2.length c7,.bool b3,.slice A8 l4.length c9,.slice ac u5.length ae],true⟩,⟨aj,0,[.int .i16 (IntKind.i16.wrap v),.int .i32 (IntKind.i32.wrap ap),.slice ah ((lst (Tree.at_ (Tree.mk n1 s2 b3 l4 u5) 1)).length) ai,.pointer ag,.map m_],true⟩,⟨bO,0,[.int .i64 n1,.slice A6 s2.length c7,.bool b3,.slice A8 l4.length c9,.slice ac u5.length ae],true⟩] [(14,.v (.tuple #[])),(5,.p 1 0),(12,.p 1 0),(13,.v (.agg #[.int .i64 n1,.slice A6 s2.length c7,.bool b3,.slice A8 l4.length c9,.slice ac u5.length ae]))] _:=dN.places (⟨rfl,rfl,⟨rfl,rfl,trivial⟩⟩)
 refine qae (qaa ?_)
 refine qad [0,1,2] kz ?_
 refine qak [0] [1,2] [(15,.p 1 0)] aM dO fun iB dP=>?_
 have hrel_:qbc (dvP m_ u5 [dvN (IntKind.i32.wrap ap),dvL ah (lst (Tree.at_ (Tree.mk n1 s2 b3 l4 u5) 1)).length ai aO,dvPV ag aP]) (Tree.mk n1 s2 b3 l4 u5):=by
  unfold qbc
  exact ⟨by rw [ee]; rfl,⟨du,rfl,bH.rel_⟩,⟨dB,bR⟩,rfl,trivial⟩
 have he_:qaF (IntKind.i16.wrap v) (dvP m_ u5 [dvN (IntKind.i32.wrap ap),dvL ah (lst (Tree.at_ (Tree.mk n1 s2 b3 l4 u5) 1)).length ai aO,dvPV ag aP]) = qat v (Tree.mk n1 s2 b3 l4 u5):=qcv _ _ _ hrel_
 rw [← he_] at hroom ⊢
 have hok_:qbe wq (fun _ _=>True) (dvP m_ u5 [dvN (IntKind.i32.wrap ap),dvL ah (lst (Tree.at_ (Tree.mk n1 s2 b3 l4 u5) 1)).length ai aO,dvPV ag aP]):=by
  unfold qbe
  exact ⟨trivial,⟨((bH.move (((aT.trans aU).trans ax).trans ao).step immM (((aT.trans aU).trans ax).trans ao).to').move (Step.refl _ Nil) nilM (fun _ _ _ _=>trivial)).slots,cj1,((bH.move (((aT.trans aU).trans ax).trans ao).step immM (((aT.trans aU).trans ax).trans ao).to').move (Step.refl _ Nil) nilM (fun _ _ _ _=>trivial)).each⟩,qba _ (Step.refl _ Nil) nilM (fun _ _ _ _=>trivial) (qba _ (ax.trans ao).step immM (ax.trans ao).to' dC),(dL.move (Step.refl _ Nil) nilM (fun _ _ _ _=>trivial)),cU.2.1,cU.2.2,trivial⟩
 refine qah (qai dP (f:=20) (vs:=[.pointer (some ⟨aj,0,none⟩),.slice none 0 0]) (d:=16) kz Tryz.call20 (qcw (IntKind.i16.wrap v) (dvP m_ u5 [dvN (IntKind.i32.wrap ap),dvL ah (lst (Tree.at_ (Tree.mk n1 s2 b3 l4 u5) 1)).length ai aO,dvPV ag aP]) aj 0 none 0 [] _ _ (fun j v hj=>⟨trivial,aM.cells 1 _ rfl j v hj⟩) hok_ qjA (World.ownsRow_nil _ 0 _ _) (by simpa using hroom)) ?_)
 rintro e_ wz ⟨A',c',rfl,ho,hs,hn⟩
 refine ⟨_,rfl,fun az hEz=>?_⟩
 have hEy:=(hEz.pick (ks:=[16]) (env':=[(16,.v (.slice A' (([] ++ qaF (IntKind.i16.wrap v) (dvP m_ u5 [dvN (IntKind.i32.wrap ap),dvL ah (lst (Tree.at_ (Tree.mk n1 s2 b3 l4 u5) 1)).length ai aO,dvPV ag aP])).length) c'))]) kz).cutTb 0 kz
 have hWz:=WOk.start wz Nil
 refine qak [2] [] [(4,.v (.slice A' (([] ++ qaF (IntKind.i16.wrap v) (dvP m_ u5 [dvN (IntKind.i32.wrap ap),dvL ah (lst (Tree.at_ (Tree.mk n1 s2 b3 l4 u5) 1)).length ai aO,dvPV ag aP])).length) c'))] hWz hEy fun iC dQ=>?_
 refine qae (qaa ?_)
 refine wp_ret ?_
 refine qaV dQ hWz.cells (v:=.slice A' (([] ++ qaF (IntKind.i16.wrap v) (dvP m_ u5 [dvN (IntKind.i32.wrap ap),dvL ah (lst (Tree.at_ (Tree.mk n1 s2 b3 l4 u5) 1)).length ai aO,dvPV ag aP])).length) c') kz ?_
 exact qgj aM.step ⟨A',c',rfl,ho,hs,hn⟩
theorem qcz (w:World):Calls Tryz.prog 5 #[] w (qdu w (.int .i64 0)):=by
 refine enter (n:=4) Tryz.func5 rfl Tryz.ntmps5 kz fun a hE=>?_
 have hW:=WOk.start w Nil
 refine qaz [] hW hE fun a1 hE2=>?_
 refine qad [0,1,2,3] kz ?_
 refine qah (qb6 hE2 (f:=14) (vs:=[]) (d:=1) (n':=3) kz Tryz.call14 Tryz.func14 rfl Tryz.ntmps14 kz fun a3 hE4=>?_)
 refine qaz [] hW hE4 fun a5 hE6=>?_
 refine qad [0] kz ?_
 refine qah (qaw hW hE6 (d:=1) (cs:=[.int .i16 0,.int .i32 0,.slice none 0 0,.pointer none,.map none]) kz fun b7 a8 w9 aA aB aC aa ab=>?_)
 refine qae (qaa ?_)
 refine qad [0] kz ?_
 refine qah (qb6 ab (f:=27) (vs:=[.pointer (some ⟨b7,0,none⟩)]) (d:=2) (n':=7) kz Tryz.call27 Tryz.func27 rfl Tryz.ntmps27 kz fun aD ac=>?_)
 have ae:=ac.recast 0 (.v (.pointer (some ⟨b7,0,none⟩))) (.p 0 0) rfl rfl (Nat.le_of_ble_eq_true (n:=1) rfl)
 refine qaz [(2,.p 0 3)] aa ae fun aE af=>?_
 refine qap [0] kz ?_
 refine qak [0] [] [] aa af fun aF ag=>?_
 refine qae ?_
 refine qda ag aa.cells (v:=.tuple #[]) kz ?_
 refine ⟨_,rfl,fun aG ah=>?_⟩
 have ai:EnvOk 3 [⟨b7,0,[.int .i16 0,.int .i32 0,.slice none 0 0,.pointer none,.map none],true⟩] [(2,.v (.tuple #[])),(1,.p 0 0)] _:=ah.places (⟨rfl,rfl,trivial⟩)
 refine qae (qaa ?_)
 refine qaz [(0,.p 0 0)] aa ai fun aH aj=>?_
 refine wp_ret ?_
 refine qaV aj aa.cells (v:=.pointer (some ⟨b7,0,none⟩)) kz ?_
 refine ⟨_,rfl,fun aI ak=>?_⟩
 have al:EnvOk 4 [⟨b7,0,[.int .i16 0,.int .i32 0,.slice none 0 0,.pointer none,.map none],true⟩] [(1,.v (.pointer (some ⟨b7,0,none⟩)))] _:=ak.places (trivial)
 have am:=al.recast 1 (.v (.pointer (some ⟨b7,0,none⟩))) (.p 0 0) rfl rfl (Nat.le_of_ble_eq_true (n:=1) rfl)
 have ao:=am.pick (ks:=[1]) (env':=[(1,.p 0 0)]) kz
 refine qah (qb6 ao (f:=15) (vs:=[.pointer (some ⟨b7,0,none⟩)]) (d:=2) (n':=3) kz Tryz.call15 Tryz.func15 rfl Tryz.ntmps15 kz fun aJ ap=>?_)
 have ar:=ap.recast 0 (.v (.pointer (some ⟨b7,0,none⟩))) (.p 0 0) rfl rfl (Nat.le_of_ble_eq_true (n:=1) rfl)
 refine qaz [] aa ar fun aK au=>?_
 refine qaz [(2,.v (.int .i16 0))] aa au fun aL av=>?_
 refine wp_ret ?_
 refine qaV av aa.cells (v:=.int .i16 0) kz ?_
 refine ⟨_,rfl,fun aM aw=>?_⟩
 have ax:EnvOk 4 [⟨b7,0,[.int .i16 0,.int .i32 0,.slice none 0 0,.pointer none,.map none],true⟩] [(2,.v (.int .i16 0)),(1,.p 0 0)] _:=aw.places (⟨rfl,rfl,trivial⟩)
 refine qak [2,3] [] [(0,.v (.int .i64 0))] aa ax fun aN ay=>?_
 refine qae (qaa ?_)
 refine wp_ret ?_
 refine qaV ay aa.cells (v:=.int .i64 0) kz ?_
 exact ⟨rfl,aa.step⟩
theorem qbA:depths sDescribeTopicPartitionsResponseF ≤ 8:=by simp [sDescribeTopicPartitionsResponseF,Fld.depth.depths,Fld.depth]
theorem qce:plains sDescribeTopicPartitionsResponseF:=by simp [sDescribeTopicPartitionsResponseF,Fld.plain.plains,Fld.plain]
theorem qcp (x:Int) (hx:0 ≤ x) (hx':x < 256) (ct:List Value) (t:Tree) (w:World) (F:Nat → Nat → Prop) (ht:TreeR w F ct t) (hroom:(qcE 8 sDescribeTopicPartitionsResponseF qao (Int.tmod x (0 + 1)) t).length ≤ 1099511627776) (hcan:qa2 (fitT (Int.tmod x (0 + 1)) 8 sDescribeTopicPartitionsResponseF t)) (hmade:(qat (Int.tmod x (0 + 1)) (fitT (Int.tmod x (0 + 1)) 8 sDescribeTopicPartitionsResponseF t)).length + 16 ≤ 1099511627776) (hpure:qat (Int.tmod x (0 + 1)) (fitT (Int.tmod x (0 + 1)) 8 sDescribeTopicPartitionsResponseF t) = qcE 8 sDescribeTopicPartitionsResponseF qao (Int.tmod x (0 + 1)) t) :
  Calls Tryz.prog 3 #[.int .u8 x,.agg ct.toArray] w (qdu w (.bool true)):=by
 obtain ⟨n1,s2,b3,l4,u5,A6,c7,A8,c9,aA,aB,cL,rfl,rfl,cM,cN,dt,du⟩:=ht.open_
 have cA:=cM.small
 have cB:=cN.small
 refine enter (n:=31) Tryz.func3 rfl Tryz.ntmps3 kz fun a hE=>?_
 have hW:=WOk.start w Nil
 refine qad [0,1] kz ?_
 refine qah (qa9 hW hE (d:=3) (cs:=[.int .i64 n1,.slice A6 s2.length c7,.bool b3,.slice A8 l4.length c9,.slice aA u5.length aB]) kz fun cO dv dw cP cQ cR am bt=>?_)
 refine qak [1] [] [(0,.v (.int .u8 x)),(3,.p 0 0)] am bt fun dx bu=>?_
 refine qae (qaa ?_)
 refine wp_seq ?_
 refine qad [0,1,2] kz ?_
 refine qak [0] [1,2] [(0,.v (.int .u8 x)),(3,.p 0 0),(8,.v (.agg #[.int .i64 n1,.slice A6 s2.length c7,.bool b3,.slice A8 l4.length c9,.slice aA u5.length aB]))] am bu fun dy bv=>?_
 refine qah (qai bv (f:=4) (vs:=[.agg #[.int .i64 n1,.slice A6 s2.length c7,.bool b3,.slice A8 l4.length c9,.slice aA u5.length aB]]) (d:=9) kz Tryz.call4 (qkR _ _ _ _ (ht.move am.step nilM am.imm)) ?_)
 rintro e_ dA ⟨cC,rfl,aL⟩
 refine ⟨_,rfl,fun dB bw=>?_⟩
 have ao:=am.next_nil aL
 have cS:=am.frN aL
 refine qak [2] [] [(0,.v (.int .u8 x)),(3,.p 0 0),(10,.v (.bool (!cC)))] ao bw fun dC aF=>?_
 refine qae (qaa ?_)
 refine qau aF (b:=!cC) kz (fun bz=>?_) (fun bz=>?_)
 ·
  refine qaz [(4,.v (.bool true))] ao aF fun dD bA=>?_
  refine wp_ret ?_
  refine qaB ?_
  refine qaV bA ao.cells (v:=.bool true) kz ?_
  exact ⟨rfl,ao.step⟩
 refine wp_skip ?_
 refine qaa ?_
 refine qad [0,1] kz ?_
 refine qah (qai aF (f:=5) (vs:=[]) (d:=11) kz Tryz.call5 (qcz _) ?_)
 rintro e_ cT ⟨rfl,aM⟩
 refine ⟨_,rfl,fun dE bB=>?_⟩
 have ap:=ao.next_nil aM
 have cV:=ao.frN aM
 refine qak [1] [] [(0,.v (.int .u8 x)),(3,.p 0 0),(5,.v (.int .i64 0))] ap bB fun dF bC=>?_
 refine qae (qaa ?_)
 refine wp_seq ?_
 refine qaz [(0,.v (.int .u8 x)),(3,.p 0 0),(5,.v (.int .i64 0)),(13,.v (.bool false))] ap bC fun dG aN=>?_
 refine qbx aN (b:=false) kz rfl ?_
 refine wp_skip ?_
 refine qaa ?_
 refine qad [0,1,2,3,4,5,6] kz ?_
 refine qah (qai aN (f:=6) (vs:=[]) (d:=14) kz Tryz.call6 (qcx _ (Imm F w cT [⟨cO,0,[.int .i64 n1,.slice A6 s2.length c7,.bool b3,.slice A8 l4.length c9,.slice aA u5.length aB],true⟩] [])) ?_)
 rintro e_ dH ⟨aJ,aK,rfl,bD,aG⟩
 obtain ⟨aO,cD,cE⟩:=bD.move (Step.refl _ Nil) nilM (ap.laid (G:=F) aG)
 refine ⟨_,rfl,fun dI bE=>?_⟩
 have aH:=ap.next_nil aG
 have cW:=ap.frN aG
 refine qak [1,2] [3,4,5,6] [(3,.p 0 0),(14,.v (.agg #[.slice aJ sDescribeTopicPartitionsResponseF.length aK,.int .i64 qao])),(15,.v (.int .u8 x)),(16,.v (.int .i64 0))] aH bE fun dJ bF=>?_
 refine qah (qai bF (f:=7) (vs:=[.int .u8 x,.int .i64 0]) (d:=17) kz Tryz.call7 (qjL x 0 hx hx' (by decide) (by decide) _) ?_)
 rintro e_ dK ⟨rfl,aP⟩
 refine ⟨_,rfl,fun dL bG=>?_⟩
 have bH:=aH.next_nil aP
 have ae:=aH.frN aP
 refine qah (qaw bH bG (d:=6) (cs:=[.slice none 0 0,.int .i64 0]) kz fun dM dN dO cX cY af bI bJ=>?_)
 refine qah (qaj bI bJ (oi:=1) (cs:=[.slice aJ sDescribeTopicPartitionsResponseF.length aK,.int .i64 qao]) kz fun dP ag aQ bK=>?_)
 refine qak [6] [] [(3,.p 0 0),(6,.p 1 0),(7,.v (.int .i64 (Int.tmod x (0 + 1))))] aQ bK fun dQ bL=>?_
 refine qae (qaa ?_)
 refine qb5 13 kz aQ fun dR ah ar bM=>?_
 refine qbg [0,1,2,3,4,8,9,10] [(18,.v (.int .i64 (Int.tmod x (0 + 1)))),(20,.v (.slice aJ sDescribeTopicPartitionsResponseF.length aK)),(21,.v (.int .i64 (Int.tmod x (0 + 1)))),(22,.v (.agg #[.int .i64 n1,.slice A6 s2.length c7,.bool b3,.slice A8 l4.length c9,.slice aA u5.length aB])),(26,.v (.agg #[.slice aJ sDescribeTopicPartitionsResponseF.length aK,.int .i64 qao])),(27,.v (.int .i64 (Int.tmod x (0 + 1)))),(28,.v (.agg #[.int .i64 n1,.slice A6 s2.length c7,.bool b3,.slice A8 l4.length c9,.slice aA u5.length aB]))] 6 (qab qal) (fun _ h=>h.cells) bM bL fun dS bN=>?_
 refine qaH (i:=5) kz (qai bN (f:=11) (vs:=[.slice aJ sDescribeTopicPartitionsResponseF.length aK,.int .i64 (Int.tmod x (0 + 1)),.agg #[.int .i64 n1,.slice A6 s2.length c7,.bool b3,.slice A8 l4.length c9,.slice aA u5.length aB]]) (d:=23) kz Tryz.call11 (qj5 _ _ _ sDescribeTopicPartitionsResponseF (Int.tmod x (0 + 1)) _ (Tree.mk n1 s2 b3 l4 u5) _ _ ⟨aO,(cD.move (((ae.trans af).trans ag).trans ah).step immM (((ae.trans af).trans ag).trans ah).to'),(fun i_ x_ h_=>((cE i_ x_ h_).move (((ae.trans af).trans ag).trans ah).step immM (((ae.trans af).trans ag).trans ah).to'))⟩ qce qbA (ht.move ar.step nilM ar.imm)) ?_)
 rintro e_ cZ ⟨c5,rfl,bO,aI⟩
 have au:=bO.move (Step.refl _ Nil) nilM (ar.laid (G:=F) aI)
 obtain ⟨bP,bQ,bR,bS,bT,bU,bV,bW,bX,bY,bZ,cG,cH,av,b0,b5,c8,da⟩:=au.open_
 rw [av] at au
 have b6:=b0.small
 have b8:=b5.small
 rw [av]
 refine ⟨_,rfl,fun db aR=>?_⟩
 have aj:=ar.next_nil aI
 have aa:=ar.frN aI
 have aS:=TT.ofW aa aj
 refine ⟨fun _=>aS,?_⟩
 refine qaH (i:=6) kz (qai aR (f:=10) (vs:=[.agg #[.int .i64 bP,.slice bU bQ.length bV,.bool bR,.slice bW bS.length bX,.slice bY bT.length bZ]]) (d:=24) kz Tryz.call10 (qj4 _ _ _ _ _ au (Nat.le_refl _)) ?_)
 rintro e_ dc ⟨cI,rfl,aT,aw⟩
 have ax:=aT.move (Step.refl _ Nil) nilM (aj.laid (G:=F) aw)
 obtain ⟨ca,cb,cc,cd,ce,cg,cl,cm,cq,cr,cu,cJ,cK,ay,cv,cw,de,df⟩:=ax.open_
 rw [ay] at ax
 have cy:=cv.small
 have cz:=cw.small
 rw [ay]
 refine ⟨_,rfl,fun dg aU=>?_⟩
 have aC:=aj.next_nil aw
 have ab:=aj.frN aw
 have aV:=TT.ofW (aa.trans ab) aC
 refine ⟨fun _=>aV,?_⟩
 refine qaH (i:=7) kz (qai aU (f:=9) (vs:=[.int .i64 (Int.tmod x (0 + 1)),.agg #[.int .i64 ca,.slice cg cb.length cl,.bool cc,.slice cm cd.length cq,.slice cr ce.length cu]]) (d:=25) kz Tryz.call9 (qcy (Int.tmod x (0 + 1)) _ (fitT (Int.tmod x (0 + 1)) 8 sDescribeTopicPartitionsResponseF (Tree.mk n1 s2 b3 l4 u5)) _ _ ax hcan hmade) ?_)
 rintro e_ dh ⟨aW,aX,rfl,aY,aZ⟩
 refine ⟨_,rfl,fun di ba=>?_⟩
 obtain ⟨ak,ac⟩:=aC.frFresh aZ (brow aW aX 5 (qat (Int.tmod x (0 + 1)) (fitT (Int.tmod x (0 + 1)) 8 sDescribeTopicPartitionsResponseF (Tree.mk n1 s2 b3 l4 u5)))) (Nat.le_refl _) aY
 have bd:=TT.ofW ((aa.trans ab).trans ac) ak
 refine ⟨fun _=>bd,?_⟩
 refine qaH (i:=11) kz (qai ba (f:=12) (vs:=[.agg #[.slice aJ sDescribeTopicPartitionsResponseF.length aK,.int .i64 qao],.int .i64 (Int.tmod x (0 + 1)),.agg #[.int .i64 n1,.slice A6 s2.length c7,.bool b3,.slice A8 l4.length c9,.slice aA u5.length aB]]) (d:=29) kz Tryz.call12 (qkO _ _ sDescribeTopicPartitionsResponseF qao (Int.tmod x (0 + 1)) _ (Tree.mk n1 s2 b3 l4 u5) _ _ ⟨aO,(cD.move ((((((ae.trans af).trans ag).trans ah).trans aa).trans ab).trans ac).step immM ((((((ae.trans af).trans ag).trans ah).trans aa).trans ab).trans ac).to'),(fun i_ x_ h_=>((cE i_ x_ h_).move ((((((ae.trans af).trans ag).trans ah).trans aa).trans ab).trans ac).step immM ((((((ae.trans af).trans ag).trans ah).trans aa).trans ab).trans ac).to'))⟩ qbA (ht.move ak.step nilM ak.imm) hroom) ?_)
 rintro e_ dj ⟨bf,bg,rfl,bh,bi⟩
 refine ⟨_,rfl,fun dl bj=>?_⟩
 obtain ⟨ai,aD⟩:=ak.frFresh bi (brow bf bg 5 (qcE 8 sDescribeTopicPartitionsResponseF qao (Int.tmod x (0 + 1)) (Tree.mk n1 s2 b3 l4 u5))) (Nat.le_refl _) bh
 have bk:=TT.ofW (((aa.trans ab).trans ac).trans aD) ai
 refine ⟨fun _=>bk,?_⟩
 refine qaH (i:=12) kz (qai bj (f:=8) (vs:=[.slice aW ((qat (Int.tmod x (0 + 1)) (fitT (Int.tmod x (0 + 1)) 8 sDescribeTopicPartitionsResponseF (Tree.mk n1 s2 b3 l4 u5))).length) aX,.slice bf ((qcE 8 sDescribeTopicPartitionsResponseF qao (Int.tmod x (0 + 1)) (Tree.mk n1 s2 b3 l4 u5)).length) bg]) (d:=30) kz Tryz.call8 (qkL _ _ _ _ (qat (Int.tmod x (0 + 1)) (fitT (Int.tmod x (0 + 1)) 8 sDescribeTopicPartitionsResponseF (Tree.mk n1 s2 b3 l4 u5))) (qcE 8 sDescribeTopicPartitionsResponseF qao (Int.tmod x (0 + 1)) (Tree.mk n1 s2 b3 l4 u5)) _ _ (qeV (ai.own 0 _ rfl) (by first | omega | (rw [qb7]; decide) | (simp only [be_length]; exact Nat.le_trans (qbW _) (by decide)) | (have:=hroom; omega) | (have:=hmade; omega) | (simp only [List.length_append,List.length_nil]; omega)) (F:=fun _ _=>True) (fun _ _ _=>trivial)) (qeV (ai.own 1 _ rfl) (by first | omega | (rw [qb7]; decide) | (simp only [be_length]; exact Nat.le_trans (qbW _) (by decide)) | (have:=hroom; omega) | (have:=hmade; omega) | (simp only [List.length_append,List.length_nil]; omega)) (F:=fun _ _=>True) (fun _ _ _=>trivial))) ?_)
 rintro e_ dp ⟨rfl,aE⟩
 refine ⟨_,rfl,fun dq bn=>?_⟩
 have al:=ai.next_nil aE
 have bp:=ai.frN aE
 have bq:=TT.ofW ((((aa.trans ab).trans ac).trans aD).trans bp) al
 refine ⟨fun _=>bq,?_⟩
 refine qaH (i:=13) kz (qcD [4] al.cells bn (env':=[(4,.v (.bool (decide (qat (Int.tmod x (0 + 1)) (fitT (Int.tmod x (0 + 1)) 8 sDescribeTopicPartitionsResponseF (Tree.mk n1 s2 b3 l4 u5)) = qcE 8 sDescribeTopicPartitionsResponseF qao (Int.tmod x (0 + 1)) (Tree.mk n1 s2 b3 l4 u5)))))]) kz fun dr br=>?_)
 refine ⟨fun h=>absurd rfl h,?_⟩
 refine qbb kz ?_ _
 refine qaa ?_
 refine wp_ret ?_
 refine qaV br al.cells (v:=.bool (decide (qat (Int.tmod x (0 + 1)) (fitT (Int.tmod x (0 + 1)) 8 sDescribeTopicPartitionsResponseF (Tree.mk n1 s2 b3 l4 u5)) = qcE 8 sDescribeTopicPartitionsResponseF qao (Int.tmod x (0 + 1)) (Tree.mk n1 s2 b3 l4 u5)))) kz ?_
 exact ⟨by rw [hpure]; simp,al.step⟩
theorem qck (x:Int) (hx:0 ≤ x ∧ x ≤ 255) (ct:List Value) (t:Tree) (w:World) (F:Nat → Nat → Prop) (ht:TreeR w F ct t) (hsz:t.size ≤ 8388608):Calls Tryz.prog 3 #[.int .u8 x,.agg ct.toArray] w (qdu w (.bool true)):=by
 obtain ⟨g0,g1⟩:=qkG (m:=0 + 1) hx.1 hx.2 (by decide) (by decide)
 have hp:qat (Int.tmod x (0 + 1)) (fitT (Int.tmod x (0 + 1)) 8 sDescribeTopicPartitionsResponseF t) = qcE 8 sDescribeTopicPartitionsResponseF qao (Int.tmod x (0 + 1)) t:=by unfold qat; rw [qiO g0 g1]; exact qcm (Int.tmod x (0 + 1)) g0 g1 t
 have h1:=qiV 8 sDescribeTopicPartitionsResponseF qao (Int.tmod x (0 + 1)) t
 have h2:qg1 sDescribeTopicPartitionsResponseF ≤ 131000:=by decide +kernel
 have h3:=Nat.mul_le_mul h2 hsz
 exact qcp x hx.1 (by omega) ct t w F ht (by omega) (qcg (Int.tmod x (0 + 1)) t) (by rw [hp]; omega) hp
end Go.Proofs.YtajibgahdkllkaaGreat.ME
namespace Go.Proofs.YtajibgahdkllkaaGreat.ME
open Go
open Go.ChangeShapes Go.WideShapes Go.ChangeAt Go.RowKit
set_option linter.unusedVariables false
set_option linter.unusedSimpArgs false
theorem qjM:ownKnob Tryz.prog.godebug = none:=by kernel_rfl
theorem qjN:laidOutB Tryz.prog = true:=by kernel_rfl
theorem qkq:TreeTys Tryz.prog 26 23 24 64 22 2 4 62 5:=⟨kz,kz,kz,kz,kz,kz,kz,kz,kz,kz⟩
theorem qjO {H:Type} {enc:TypeId × Value → H} {P:Program} {W:World} {base b':Nat} {sp:Nat → Bool} {hd:Bool} {t0 t1:TypeId} {v0 v1:Value} {d0:DataW H} {p0:List MemPlace} (hu:P.underlying t0 = some (.int .u8))
  (hval:∀ (j:Nat) (t:TypeId) (v:Value),#[t0,t1][j]? = some t → #[v0,v1][j]? = some v → Value.okWide P W .any base t v) (h:DataW.Trod enc P W b' sp hd t0 v0 d0 p0):∃ x,v0 = .int .u8 x ∧ d0 = .lit (.int .u8 x) ∧ p0 = [] ∧ (Lit.int .u8 x).wf = true :=
 open_int hu (hval 0 t0 v0 rfl rfl) h
theorem qkS {v:Value} {cs:List Value} (h:v.cells.toList = cs) (h5:cs.length = 5):v = .agg cs.toArray:=by
 subst h
 cases v <;> first | (simp [Value.cells] at h5; done) | simp [Value.cells]
theorem qi9 (H:Type) (enc:TypeId × Value → H) (W:World) (base:Nat) (args:Array Value) (ds gs:List (DataW H)) (before:List MemPlace)
  (hval:∀ (j:Nat) t v,Tryz.f3.params[j]? = some t → args[j]? = some v → Value.okWide Tryz.prog W .any base t v)
  (hW:DataW.Whole enc Tryz.prog Tryz.f3.params.toList Rows.fnMakeDescribeTopicPartitionsResponseSpec.vars false W args.toList ds gs before) (hk:Rows.uptoSmall H (ds ++ gs) = true) :
  Calls Tryz.prog 3 args W fun e W'=>∃ v,e = .returned v ∧ Rows.fnMakeDescribeTopicPartitionsResponseSpec.post enc Tryz.prog Tryz.f3 false true false false W args v W':=by
 have hW':=hW
 obtain ⟨p,q,hA0,hV,rfl,hfz,hnd⟩:=hW
 have hA:DataW.TrodAll enc Tryz.prog W 0 (fun _=>true) true Tryz.f3.params.toList args.toList ds p:=hA0
 rw [Tryz.params3] at hA hval
 obtain ⟨v0,v1,d0,d1,p0,p1,rfl,rfl,rfl,h0,h1⟩:=trodAll_two hA
 obtain ⟨rfl,rfl⟩:=trodVars_none hV
 obtain ⟨x,rfl,rfl,rfl,w0⟩:=qjO Tryz.underlying5 @hval h0
 have hx:0 ≤ x ∧ x ≤ 255:=by simpa [Lit.wf,IntKind.min,IntKind.max,IntKind.signed,IntKind.bits] using w0
 have hb:Rows.uptoBulk d1 ≤ 1048576:=by
  have h:Rows.uptoBulkAll ([DataW.lit (H:=H) (.int .u8 x),d1] ++ []) ≤ 1048576:=of_decide_eq_true hk
  simp only [List.append_nil,Rows.uptoBulkAll] at h
  omega
 obtain ⟨fuel,hf⟩:=h1
 obtain ⟨t,ht,hsz⟩:=qiY qkq fuel _ _ hf hb
 replace hsz:t.size ≤ 8388608:=Nat.le_trans hsz (by show 8 * Rows.uptoBulk d1 ≤ 8388608; omega)
 have hagg:=qkS rfl (TreeR.five ht)
 generalize v1.cells.toList = ct at ht hagg
 subst hagg
 clear hf
 refine (qck x hx _ t W (fun _ _=>True) ht hsz).mono fun e W' h=>?_
 obtain ⟨rfl,hs⟩:=h
 exact ⟨_,rfl,qiZ hW' hs qjN (by rw [Tryz.params3]; decide +kernel) rfl rfl rfl (fun _ _ _=>trodAll_cons_mk (shut_bool Tryz.underlying4 _) trodAll_mk0)⟩
set_option maxRecDepth 100000 in
theorem qkr (os:Os) (started:os.Started) (H:Type) (enc:TypeId × Value → H) (F:Stop.Interp) :
  ReturnsInHanded {} Tryz.checked os 3 .any ((Rows.OpenSpec.upto Rows.fnMakeDescribeTopicPartitionsResponseSpec).pre6 enc Tryz.prog Tryz.f3 Rows.fnMakeDescribeTopicPartitionsResponseUptoRow.domain false) (((Rows.OpenSpec.upto Rows.fnMakeDescribeTopicPartitionsResponseSpec).at F).post enc Tryz.prog Tryz.f3 false true false false):=by
 refine returnsInHanded_of_cond (C:=Tryz.checked) (s:=Rows.OpenSpec.upto Rows.fnMakeDescribeTopicPartitionsResponseSpec) (k:=Rows.uptoSmall) rfl qjM started kz Tryz.func3
  (OpenSpec.witness (enc:=enc) (C:=Tryz.checked) (s:=Rows.OpenSpec.upto Rows.fnMakeDescribeTopicPartitionsResponseSpec) (k:=Rows.uptoSmall) rfl false ⟨#[],#[.int .u8 0,.agg #[.int .i64 0,.slice none 0 0,.bool false,.slice none 0 0,.slice none 0 0]],[]⟩ 8 kz kz kz
   (x:=([.lit (.int .u8 0),.agg [.lit (.int .i64 0),.nil,.lit (.bool false),.nil,.nil]],[],[])) kz rfl kz) ?_
 intro W base args ds gs before hval hW _ hk _
 exact qi9 H enc W base args ds gs before @hval hW hk
theorem holds_:Rows.FnMakeDescribeTopicPartitionsResponseUptoSaid :=
 OpenClaim.holds_of_cond 3 Tryz.f3 rfl rfl rfl rfl rfl rfl rfl ⟨rfl,rfl,rfl,rfl,rfl⟩ rfl rfl rfl rfl rfl kz Tryz.func3 kz
  (of_decide_eq_true kz) (by unfold Func.isWrapper; first | (rw [if_pos (by decide +kernel)]; kernel_rfl) | (rw [if_neg (by decide +kernel)]; exact ⟨rfl,rfl⟩))
  (fun os started H enc _ F=>qkr os started H enc F)
end Go.Proofs.YtajibgahdkllkaaGreat.ME
namespace Go.Proofs.YtajibgahdkllkaaGreat
theorem fnMakeDescribeTopicPartitionsResponse_holds:Rows.FnMakeDescribeTopicPartitionsResponseUptoSaid:=ME.holds_
end Go.Proofs.YtajibgahdkllkaaGreat