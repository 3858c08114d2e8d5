/-
  DERIVED. GIVEN WITH THE SEED: THE CARDS: each row of YtipblegipibplaaGreatDoorRows.lean that lists a variable, with what it lists TIED to the program's text (the seventh form; the later family's looks); each row that meets fmt, with fmt's text TOLD by the authors' own Lean function (tested against real Go, not proved from fmt's source: count such statements apart). THE CARD IS WHAT COUNTS. Prove the row's statement (the work); the ties are given (YtipblegipibplaaGreatDoorTie.lean); close each card by the builder's one call (the guide's Derived/Test/ToyasCard.lean, 'card_holds'). Laid BY PROGRAM, IN A SANDBOX (cutbox-door.mjs). By AI agents, Wed Nov 11 2026. No macro, syntax, notation, axiom, sorry.
-/
import Derived.Test.YtipblegipibplaaGreatDoorRows
import GoSem.ClaimSeven
namespace Go.Proofs.YtipblegipibplaaGreatDoor
namespace Rows

/-- THE TIED CARD OF 'laws.FnRoadSync'. -/
def fnRoadSyncCard : Claim7 := { stood := { row := fnRoadSyncRow, standIns := [], harness := (true, "de6d1bfa3e815390ac0045e7622e34d2d310a0f004ecd2dc8cf4b78350a665b6"), looks := false }, kinds := [], alts := [], laidByText := true, laidKinds := [.sentinel], laidTests := true, laidLooks := .later }
def FnRoadSyncCardSaid : Prop := Claim7.holds Tryz.pinned (.plain (OpenSpec.ofChange fnRoadSyncSpec)) fnRoadSyncCard

/-- THE SECOND FORM's CARD OF 'laws.FnRoadSync'. -/
def fnRoadSyncUptoCard : Claim7 := { stood := { row := fnRoadSyncUptoRow, standIns := [], harness := (true, "de6d1bfa3e815390ac0045e7622e34d2d310a0f004ecd2dc8cf4b78350a665b6"), looks := false }, kinds := [], alts := [], laidByText := true, laidKinds := [.sentinel], laidTests := true, laidLooks := .later }
def FnRoadSyncUptoCardSaid : Prop := Claim7.holds Tryz.pinned (.plain (OpenSpec.upto fnRoadSyncSpec)) fnRoadSyncUptoCard
end Rows
end Go.Proofs.YtipblegipibplaaGreatDoor
