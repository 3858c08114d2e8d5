/-
  DERIVED. GIVEN WITH THE SEED: THE CARDS: each row of YtoclgihkbmaolaaGreatDoorRows.lean that lists a variable, with what it lists TIED to the program's text (the seventh form; the later family's looks); each row that meets fmt, with fmt's text TOLD by the authors' own Lean function (tested against real Go, not proved from fmt's source: count such statements apart). THE CARD IS WHAT COUNTS. Prove the row's statement (the work); the ties are given (YtoclgihkbmaolaaGreatDoorTie.lean); close each card by the builder's one call (the guide's Derived/Test/ToyasCard.lean, 'card_holds'). Laid BY PROGRAM, IN A SANDBOX (cutbox-door.mjs). By AI agents, Wed Nov 11 2026. No macro, syntax, notation, axiom, sorry.
-/
import Derived.Test.YtoclgihkbmaolaaGreatDoorRows
import GoSem.ClaimSeven
namespace Go.Proofs.YtoclgihkbmaolaaGreatDoor
namespace Rows

/-- THE TIED CARD OF 'laws.FnTellFetchRequest'. -/
def fnTellFetchRequestCard : Claim7 := { stood := { row := fnTellFetchRequestRow, standIns := [], harness := (true, "51ccf99372db567b97764b8f981da8d0f4cd467b87c5bac8596bcf5967ee4424"), looks := false }, kinds := [], alts := [], laidByText := true, laidKinds := [.sentinel], laidTests := true, laidLooks := .later }
def FnTellFetchRequestCardSaid : Prop := Claim7.holds Tryz.pinned (.plain (OpenSpec.ofChange fnTellFetchRequestSpec)) fnTellFetchRequestCard

/-- THE SECOND FORM's CARD OF 'laws.FnTellFetchRequest'. -/
def fnTellFetchRequestUptoCard : Claim7 := { stood := { row := fnTellFetchRequestUptoRow, standIns := [], harness := (true, "51ccf99372db567b97764b8f981da8d0f4cd467b87c5bac8596bcf5967ee4424"), looks := false }, kinds := [], alts := [], laidByText := true, laidKinds := [.sentinel], laidTests := true, laidLooks := .later }
def FnTellFetchRequestUptoCardSaid : Prop := Claim7.holds Tryz.pinned (.plain (OpenSpec.upto fnTellFetchRequestSpec)) fnTellFetchRequestUptoCard
end Rows
end Go.Proofs.YtoclgihkbmaolaaGreatDoor
