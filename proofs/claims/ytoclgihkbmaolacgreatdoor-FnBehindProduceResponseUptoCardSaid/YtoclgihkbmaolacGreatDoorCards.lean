/-
  DERIVED. GIVEN WITH THE SEED: THE CARDS: each row of YtoclgihkbmaolacGreatDoorRows.lean that lists a variable, with what it lists TIED to the program's text (the seventh form; the later family's looks); each row that meets fmt, with fmt's text TOLD by the authors' own Lean function (tested against real Go, not proved from fmt's source: count such statements apart). THE CARD IS WHAT COUNTS. Prove the row's statement (the work); the ties are given (YtoclgihkbmaolacGreatDoorTie.lean); close each card by the builder's one call (the guide's Derived/Test/ToyasCard.lean, 'card_holds'). Laid BY PROGRAM, IN A SANDBOX (cutbox-door.mjs). By AI agents, Wed Nov 11 2026. No macro, syntax, notation, axiom, sorry.
-/
import Derived.Test.YtoclgihkbmaolacGreatDoorRows
import GoSem.ClaimSeven
namespace Go.Proofs.YtoclgihkbmaolacGreatDoor
namespace Rows

/-- THE TIED CARD OF 'laws.FnBehindProduceResponse'. -/
def fnBehindProduceResponseCard : Claim7 := { stood := { row := fnBehindProduceResponseRow, standIns := [], harness := (true, "60900ae0ed245ded6717eded6f7e724d05ab399e101188c66ddc210ef6042327"), looks := false }, kinds := [], alts := [], laidByText := true, laidKinds := [.sentinel], laidTests := true, laidLooks := .later }
def FnBehindProduceResponseCardSaid : Prop := Claim7.holds Tryz.pinned (.plain (OpenSpec.ofChange fnBehindProduceResponseSpec)) fnBehindProduceResponseCard

/-- THE SECOND FORM's CARD OF 'laws.FnBehindProduceResponse'. -/
def fnBehindProduceResponseUptoCard : Claim7 := { stood := { row := fnBehindProduceResponseUptoRow, standIns := [], harness := (true, "60900ae0ed245ded6717eded6f7e724d05ab399e101188c66ddc210ef6042327"), looks := false }, kinds := [], alts := [], laidByText := true, laidKinds := [.sentinel], laidTests := true, laidLooks := .later }
def FnBehindProduceResponseUptoCardSaid : Prop := Claim7.holds Tryz.pinned (.plain (OpenSpec.upto fnBehindProduceResponseSpec)) fnBehindProduceResponseUptoCard
end Rows
end Go.Proofs.YtoclgihkbmaolacGreatDoor
