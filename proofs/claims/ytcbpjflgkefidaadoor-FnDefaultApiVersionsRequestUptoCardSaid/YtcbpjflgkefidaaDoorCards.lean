/-
  DERIVED. GIVEN WITH THE SEED: THE CARDS: each row of YtcbpjflgkefidaaDoorRows.lean that lists a variable, with what it lists TIED to the program's text (the seventh form; the later family's looks); each row that meets fmt, with fmt's text TOLD by the authors' own Lean function (tested against real Go, not proved from fmt's source: count such statements apart). THE CARD IS WHAT COUNTS. Prove the row's statement (the work); the ties are given (YtcbpjflgkefidaaDoorTie.lean); close each card by the builder's one call (the guide's Derived/Test/ToyasCard.lean, 'card_holds'). Laid BY PROGRAM, IN A SANDBOX (cutbox-door.mjs). By AI agents, Wed Nov 11 2026. No macro, syntax, notation, axiom, sorry.
-/
import Derived.Test.YtcbpjflgkefidaaDoorRows
import GoSem.ClaimSeven
namespace Go.Proofs.YtcbpjflgkefidaaDoor
namespace Rows

/-- THE TIED CARD OF 'laws.FnDefaultApiVersionsRequest'. -/
def fnDefaultApiVersionsRequestCard : Claim7 := { stood := { row := fnDefaultApiVersionsRequestRow, standIns := [], harness := (true, "cc240b9059b10685ae95aac9a004ebe708f06dd26fdc9f298f12fbf81c922adc"), looks := false }, kinds := [], alts := [], laidByText := true, laidKinds := [.sentinel], laidTests := true, laidLooks := .later }
def FnDefaultApiVersionsRequestCardSaid : Prop := Claim7.holds Tryd.pinned (.plain (OpenSpec.ofChange fnDefaultApiVersionsRequestSpec)) fnDefaultApiVersionsRequestCard

/-- THE SECOND FORM's CARD OF 'laws.FnDefaultApiVersionsRequest'. -/
def fnDefaultApiVersionsRequestUptoCard : Claim7 := { stood := { row := fnDefaultApiVersionsRequestUptoRow, standIns := [], harness := (true, "cc240b9059b10685ae95aac9a004ebe708f06dd26fdc9f298f12fbf81c922adc"), looks := false }, kinds := [], alts := [], laidByText := true, laidKinds := [.sentinel], laidTests := true, laidLooks := .later }
def FnDefaultApiVersionsRequestUptoCardSaid : Prop := Claim7.holds Tryd.pinned (.plain (OpenSpec.upto fnDefaultApiVersionsRequestSpec)) fnDefaultApiVersionsRequestUptoCard
end Rows
end Go.Proofs.YtcbpjflgkefidaaDoor
