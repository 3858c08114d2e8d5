/-
  DERIVED. GIVEN WITH THE SEED: THE CARDS: each row of YtdlaobdadlmcdabGreatDoorRows.lean that lists a variable, with what it lists TIED to the program's text (the seventh form; the later family's looks); each row that meets fmt, with fmt's text TOLD by the authors' own Lean function (tested against real Go, not proved from fmt's source: count such statements apart). THE CARD IS WHAT COUNTS. Prove the row's statement (the work); the ties are given (YtdlaobdadlmcdabGreatDoorTie.lean); close each card by the builder's one call (the guide's Derived/Test/ToyasCard.lean, 'card_holds'). Laid BY PROGRAM, IN A SANDBOX (cutbox-door.mjs). By AI agents, Wed Nov 11 2026. No macro, syntax, notation, axiom, sorry.
-/
import Derived.Test.YtdlaobdadlmcdabGreatDoorRows
import GoSem.ClaimSeven
namespace Go.Proofs.YtdlaobdadlmcdabGreatDoor
namespace Rows

/-- THE TIED CARD OF 'laws.FnBehindProduceResponse'. -/
def fnBehindProduceResponseCard : Claim7 := { stood := { row := fnBehindProduceResponseRow, standIns := [], harness := (true, "60e9bd99ee29f31f378c6901b264c1f4261ffb8bc59ee449cf9f6687f996d449"), looks := false }, kinds := [], alts := [], laidByText := true, laidKinds := [.sentinel], laidTests := true, laidLooks := .later }
def FnBehindProduceResponseCardSaid : Prop := Claim7.holds Tryz.pinned (.plain (OpenSpec.ofChange fnBehindProduceResponseSpec)) fnBehindProduceResponseCard

/-- THE TIED CARD OF 'laws.FnBehindJoinGroupResponse'. -/
def fnBehindJoinGroupResponseCard : Claim7 := { stood := { row := fnBehindJoinGroupResponseRow, standIns := [], harness := (true, "60e9bd99ee29f31f378c6901b264c1f4261ffb8bc59ee449cf9f6687f996d449"), looks := false }, kinds := [], alts := [], laidByText := true, laidKinds := [.sentinel], laidTests := true, laidLooks := .later }
def FnBehindJoinGroupResponseCardSaid : Prop := Claim7.holds Tryz.pinned (.plain (OpenSpec.ofChange fnBehindJoinGroupResponseSpec)) fnBehindJoinGroupResponseCard

/-- THE SECOND FORM's CARD OF 'laws.FnBehindProduceResponse'. -/
def fnBehindProduceResponseUptoCard : Claim7 := { stood := { row := fnBehindProduceResponseUptoRow, standIns := [], harness := (true, "60e9bd99ee29f31f378c6901b264c1f4261ffb8bc59ee449cf9f6687f996d449"), looks := false }, kinds := [], alts := [], laidByText := true, laidKinds := [.sentinel], laidTests := true, laidLooks := .later }
def FnBehindProduceResponseUptoCardSaid : Prop := Claim7.holds Tryz.pinned (.plain (OpenSpec.upto fnBehindProduceResponseSpec)) fnBehindProduceResponseUptoCard

/-- THE SECOND FORM's CARD OF 'laws.FnBehindJoinGroupResponse'. -/
def fnBehindJoinGroupResponseUptoCard : Claim7 := { stood := { row := fnBehindJoinGroupResponseUptoRow, standIns := [], harness := (true, "60e9bd99ee29f31f378c6901b264c1f4261ffb8bc59ee449cf9f6687f996d449"), looks := false }, kinds := [], alts := [], laidByText := true, laidKinds := [.sentinel], laidTests := true, laidLooks := .later }
def FnBehindJoinGroupResponseUptoCardSaid : Prop := Claim7.holds Tryz.pinned (.plain (OpenSpec.upto fnBehindJoinGroupResponseSpec)) fnBehindJoinGroupResponseUptoCard
end Rows
end Go.Proofs.YtdlaobdadlmcdabGreatDoor
