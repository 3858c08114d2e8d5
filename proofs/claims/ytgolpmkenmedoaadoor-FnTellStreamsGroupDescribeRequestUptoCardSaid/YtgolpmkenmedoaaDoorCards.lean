/-
  DERIVED. GIVEN WITH THE SEED: THE CARDS: each row of YtgolpmkenmedoaaDoorRows.lean that lists a variable, with what it lists TIED to the program's text (the seventh form; the later family's looks); each row that meets fmt, with fmt's text TOLD by the authors' own Lean function (tested against real Go, not proved from fmt's source: count such statements apart). THE CARD IS WHAT COUNTS. Prove the row's statement (the work); the ties are given (YtgolpmkenmedoaaDoorTie.lean); close each card by the builder's one call (the guide's Derived/Test/ToyasCard.lean, 'card_holds'). Laid BY PROGRAM, IN A SANDBOX (cutbox-door.mjs). By AI agents, Wed Nov 11 2026. No macro, syntax, notation, axiom, sorry.
-/
import Derived.Test.YtgolpmkenmedoaaDoorRows
import GoSem.ClaimSeven
namespace Go.Proofs.YtgolpmkenmedoaaDoor
namespace Rows

/-- THE TIED CARD OF 'laws.FnTellShareGroupDescribeRequest'. -/
def fnTellShareGroupDescribeRequestCard : Claim7 := { stood := { row := fnTellShareGroupDescribeRequestRow, standIns := [], harness := (true, "5090063463bb01873fdf270d18e23828c52af27c3f7ee32cb0934359f7a1fe4b"), looks := false }, kinds := [], alts := [], laidByText := true, laidKinds := [.sentinel], laidTests := true, laidLooks := .later }
def FnTellShareGroupDescribeRequestCardSaid : Prop := Claim7.holds Tryd.pinned (.plain (OpenSpec.ofChange fnTellShareGroupDescribeRequestSpec)) fnTellShareGroupDescribeRequestCard

/-- THE TIED CARD OF 'laws.FnTellStreamsGroupDescribeRequest'. -/
def fnTellStreamsGroupDescribeRequestCard : Claim7 := { stood := { row := fnTellStreamsGroupDescribeRequestRow, standIns := [], harness := (true, "5090063463bb01873fdf270d18e23828c52af27c3f7ee32cb0934359f7a1fe4b"), looks := false }, kinds := [], alts := [], laidByText := true, laidKinds := [.sentinel], laidTests := true, laidLooks := .later }
def FnTellStreamsGroupDescribeRequestCardSaid : Prop := Claim7.holds Tryd.pinned (.plain (OpenSpec.ofChange fnTellStreamsGroupDescribeRequestSpec)) fnTellStreamsGroupDescribeRequestCard

/-- THE SECOND FORM's CARD OF 'laws.FnTellShareGroupDescribeRequest'. -/
def fnTellShareGroupDescribeRequestUptoCard : Claim7 := { stood := { row := fnTellShareGroupDescribeRequestUptoRow, standIns := [], harness := (true, "5090063463bb01873fdf270d18e23828c52af27c3f7ee32cb0934359f7a1fe4b"), looks := false }, kinds := [], alts := [], laidByText := true, laidKinds := [.sentinel], laidTests := true, laidLooks := .later }
def FnTellShareGroupDescribeRequestUptoCardSaid : Prop := Claim7.holds Tryd.pinned (.plain (OpenSpec.upto fnTellShareGroupDescribeRequestSpec)) fnTellShareGroupDescribeRequestUptoCard

/-- THE SECOND FORM's CARD OF 'laws.FnTellStreamsGroupDescribeRequest'. -/
def fnTellStreamsGroupDescribeRequestUptoCard : Claim7 := { stood := { row := fnTellStreamsGroupDescribeRequestUptoRow, standIns := [], harness := (true, "5090063463bb01873fdf270d18e23828c52af27c3f7ee32cb0934359f7a1fe4b"), looks := false }, kinds := [], alts := [], laidByText := true, laidKinds := [.sentinel], laidTests := true, laidLooks := .later }
def FnTellStreamsGroupDescribeRequestUptoCardSaid : Prop := Claim7.holds Tryd.pinned (.plain (OpenSpec.upto fnTellStreamsGroupDescribeRequestSpec)) fnTellStreamsGroupDescribeRequestUptoCard
end Rows
end Go.Proofs.YtgolpmkenmedoaaDoor
