/-
  DERIVED. GIVEN WITH THE SEED: THE CARDS: each row of YtdlaobdadlmcdabDoorRows.lean that lists a variable, with what it lists TIED to the program's text (the seventh form; the later family's looks); each row that meets fmt, with fmt's text TOLD by the authors' own Lean function (tested against real Go, not proved from fmt's source: count such statements apart). THE CARD IS WHAT COUNTS. Prove the row's statement (the work); the ties are given (YtdlaobdadlmcdabDoorTie.lean); close each card by the builder's one call (the guide's Derived/Test/ToyasCard.lean, 'card_holds'). Laid BY PROGRAM, IN A SANDBOX (cutbox-door.mjs). By AI agents, Wed Nov 11 2026. No macro, syntax, notation, axiom, sorry.
-/
import Derived.Test.YtdlaobdadlmcdabDoorRows
import GoSem.ClaimSeven
namespace Go.Proofs.YtdlaobdadlmcdabDoor
namespace Rows

/-- THE TIED CARD OF 'laws.FnTellBrokerHeartbeatRequest'. -/
def fnTellBrokerHeartbeatRequestCard : Claim7 := { stood := { row := fnTellBrokerHeartbeatRequestRow, standIns := [], harness := (true, "b47e84f7a552649082140c90b62b363c097eaaeed12eb7cb4486e4fa8263535a"), looks := false }, kinds := [], alts := [], laidByText := true, laidKinds := [.sentinel], laidTests := true, laidLooks := .later }
def FnTellBrokerHeartbeatRequestCardSaid : Prop := Claim7.holds Tryd.pinned (.plain (OpenSpec.ofChange fnTellBrokerHeartbeatRequestSpec)) fnTellBrokerHeartbeatRequestCard

/-- THE SECOND FORM's CARD OF 'laws.FnTellBrokerHeartbeatRequest'. -/
def fnTellBrokerHeartbeatRequestUptoCard : Claim7 := { stood := { row := fnTellBrokerHeartbeatRequestUptoRow, standIns := [], harness := (true, "b47e84f7a552649082140c90b62b363c097eaaeed12eb7cb4486e4fa8263535a"), looks := false }, kinds := [], alts := [], laidByText := true, laidKinds := [.sentinel], laidTests := true, laidLooks := .later }
def FnTellBrokerHeartbeatRequestUptoCardSaid : Prop := Claim7.holds Tryd.pinned (.plain (OpenSpec.upto fnTellBrokerHeartbeatRequestSpec)) fnTellBrokerHeartbeatRequestUptoCard
end Rows
end Go.Proofs.YtdlaobdadlmcdabDoor
