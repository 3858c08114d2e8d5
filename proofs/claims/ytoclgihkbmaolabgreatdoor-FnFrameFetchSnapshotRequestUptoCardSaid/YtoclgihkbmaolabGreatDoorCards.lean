/-
  DERIVED. GIVEN WITH THE SEED: THE CARDS: each row of YtoclgihkbmaolabGreatDoorRows.lean that lists a variable, with what it lists TIED to the program's text (the seventh form; the later family's looks); each row that meets fmt, with fmt's text TOLD by the authors' own Lean function (tested against real Go, not proved from fmt's source: count such statements apart). THE CARD IS WHAT COUNTS. Prove the row's statement (the work); the ties are given (YtoclgihkbmaolabGreatDoorTie.lean); close each card by the builder's one call (the guide's Derived/Test/ToyasCard.lean, 'card_holds'). Laid BY PROGRAM, IN A SANDBOX (cutbox-door.mjs). By AI agents, Wed Nov 11 2026. No macro, syntax, notation, axiom, sorry.
-/
import Derived.Test.YtoclgihkbmaolabGreatDoorRows
import GoSem.ClaimSeven
namespace Go.Proofs.YtoclgihkbmaolabGreatDoor
namespace Rows

/-- THE TIED CARD OF 'laws.FnFrameFetchSnapshotRequest'. -/
def fnFrameFetchSnapshotRequestCard : Claim7 := { stood := { row := fnFrameFetchSnapshotRequestRow, standIns := [], harness := (true, "e3d29e7be786b93c0cd669e8a10fbf1064c86694eca65cf2c49b6eefe3d20abe"), looks := false }, kinds := [], alts := [], laidByText := true, laidKinds := [.sentinel], laidTests := true, laidLooks := .later }
def FnFrameFetchSnapshotRequestCardSaid : Prop := Claim7.holds Tryz.pinned (.plain (OpenSpec.ofChange fnFrameFetchSnapshotRequestSpec)) fnFrameFetchSnapshotRequestCard

/-- THE SECOND FORM's CARD OF 'laws.FnFrameFetchSnapshotRequest'. -/
def fnFrameFetchSnapshotRequestUptoCard : Claim7 := { stood := { row := fnFrameFetchSnapshotRequestUptoRow, standIns := [], harness := (true, "e3d29e7be786b93c0cd669e8a10fbf1064c86694eca65cf2c49b6eefe3d20abe"), looks := false }, kinds := [], alts := [], laidByText := true, laidKinds := [.sentinel], laidTests := true, laidLooks := .later }
def FnFrameFetchSnapshotRequestUptoCardSaid : Prop := Claim7.holds Tryz.pinned (.plain (OpenSpec.upto fnFrameFetchSnapshotRequestSpec)) fnFrameFetchSnapshotRequestUptoCard
end Rows
end Go.Proofs.YtoclgihkbmaolabGreatDoor
