/-
  DERIVED. GIVEN WITH THE SEED: THE CARDS: each row of YtfljkhecngpcmaaGreatDoorRows.lean that lists a variable, with what it lists TIED to the program's text (the seventh form; the later family's looks); each row that meets fmt, with fmt's text TOLD by the authors' own Lean function (tested against real Go, not proved from fmt's source: count such statements apart). THE CARD IS WHAT COUNTS. Prove the row's statement (the work); the ties are given (YtfljkhecngpcmaaGreatDoorTie.lean); close each card by the builder's one call (the guide's Derived/Test/ToyasCard.lean, 'card_holds'). Laid BY PROGRAM, IN A SANDBOX (cutbox-door.mjs). By AI agents, Wed Nov 11 2026. No macro, syntax, notation, axiom, sorry.
-/
import Derived.Test.YtfljkhecngpcmaaGreatDoorRows
import GoSem.ClaimSeven
namespace Go.Proofs.YtfljkhecngpcmaaGreatDoor
namespace Rows

/-- THE TIED CARD OF 'laws.FnTellAssignReplicasToDirsResponse'. -/
def fnTellAssignReplicasToDirsResponseCard : Claim7 := { stood := { row := fnTellAssignReplicasToDirsResponseRow, standIns := [], harness := (true, "c6827fe9979eef5e800ef8fd08477e5916b94b77582cecfa86b29e1797bfd775"), looks := false }, kinds := [], alts := [], laidByText := true, laidKinds := [.sentinel], laidTests := true, laidLooks := .later }
def FnTellAssignReplicasToDirsResponseCardSaid : Prop := Claim7.holds Tryz.pinned (.plain (OpenSpec.ofChange fnTellAssignReplicasToDirsResponseSpec)) fnTellAssignReplicasToDirsResponseCard

/-- THE TIED CARD OF 'laws.FnTellListPartitionReassignmentsResponse'. -/
def fnTellListPartitionReassignmentsResponseCard : Claim7 := { stood := { row := fnTellListPartitionReassignmentsResponseRow, standIns := [], harness := (true, "c6827fe9979eef5e800ef8fd08477e5916b94b77582cecfa86b29e1797bfd775"), looks := false }, kinds := [], alts := [], laidByText := true, laidKinds := [.sentinel], laidTests := true, laidLooks := .later }
def FnTellListPartitionReassignmentsResponseCardSaid : Prop := Claim7.holds Tryz.pinned (.plain (OpenSpec.ofChange fnTellListPartitionReassignmentsResponseSpec)) fnTellListPartitionReassignmentsResponseCard

/-- THE TIED CARD OF 'laws.FnTellDescribeShareGroupOffsetsRequest'. -/
def fnTellDescribeShareGroupOffsetsRequestCard : Claim7 := { stood := { row := fnTellDescribeShareGroupOffsetsRequestRow, standIns := [], harness := (true, "c6827fe9979eef5e800ef8fd08477e5916b94b77582cecfa86b29e1797bfd775"), looks := false }, kinds := [], alts := [], laidByText := true, laidKinds := [.sentinel], laidTests := true, laidLooks := .later }
def FnTellDescribeShareGroupOffsetsRequestCardSaid : Prop := Claim7.holds Tryz.pinned (.plain (OpenSpec.ofChange fnTellDescribeShareGroupOffsetsRequestSpec)) fnTellDescribeShareGroupOffsetsRequestCard

/-- THE TIED CARD OF 'laws.FnTellDescribeUserSCRAMCredentialsRequest'. -/
def fnTellDescribeUserSCRAMCredentialsRequestCard : Claim7 := { stood := { row := fnTellDescribeUserSCRAMCredentialsRequestRow, standIns := [], harness := (true, "c6827fe9979eef5e800ef8fd08477e5916b94b77582cecfa86b29e1797bfd775"), looks := false }, kinds := [], alts := [], laidByText := true, laidKinds := [.sentinel], laidTests := true, laidLooks := .later }
def FnTellDescribeUserSCRAMCredentialsRequestCardSaid : Prop := Claim7.holds Tryz.pinned (.plain (OpenSpec.ofChange fnTellDescribeUserSCRAMCredentialsRequestSpec)) fnTellDescribeUserSCRAMCredentialsRequestCard

/-- THE SECOND FORM's CARD OF 'laws.FnTellAssignReplicasToDirsResponse'. -/
def fnTellAssignReplicasToDirsResponseUptoCard : Claim7 := { stood := { row := fnTellAssignReplicasToDirsResponseUptoRow, standIns := [], harness := (true, "c6827fe9979eef5e800ef8fd08477e5916b94b77582cecfa86b29e1797bfd775"), looks := false }, kinds := [], alts := [], laidByText := true, laidKinds := [.sentinel], laidTests := true, laidLooks := .later }
def FnTellAssignReplicasToDirsResponseUptoCardSaid : Prop := Claim7.holds Tryz.pinned (.plain (OpenSpec.upto fnTellAssignReplicasToDirsResponseSpec)) fnTellAssignReplicasToDirsResponseUptoCard

/-- THE SECOND FORM's CARD OF 'laws.FnTellListPartitionReassignmentsResponse'. -/
def fnTellListPartitionReassignmentsResponseUptoCard : Claim7 := { stood := { row := fnTellListPartitionReassignmentsResponseUptoRow, standIns := [], harness := (true, "c6827fe9979eef5e800ef8fd08477e5916b94b77582cecfa86b29e1797bfd775"), looks := false }, kinds := [], alts := [], laidByText := true, laidKinds := [.sentinel], laidTests := true, laidLooks := .later }
def FnTellListPartitionReassignmentsResponseUptoCardSaid : Prop := Claim7.holds Tryz.pinned (.plain (OpenSpec.upto fnTellListPartitionReassignmentsResponseSpec)) fnTellListPartitionReassignmentsResponseUptoCard

/-- THE SECOND FORM's CARD OF 'laws.FnTellDescribeShareGroupOffsetsRequest'. -/
def fnTellDescribeShareGroupOffsetsRequestUptoCard : Claim7 := { stood := { row := fnTellDescribeShareGroupOffsetsRequestUptoRow, standIns := [], harness := (true, "c6827fe9979eef5e800ef8fd08477e5916b94b77582cecfa86b29e1797bfd775"), looks := false }, kinds := [], alts := [], laidByText := true, laidKinds := [.sentinel], laidTests := true, laidLooks := .later }
def FnTellDescribeShareGroupOffsetsRequestUptoCardSaid : Prop := Claim7.holds Tryz.pinned (.plain (OpenSpec.upto fnTellDescribeShareGroupOffsetsRequestSpec)) fnTellDescribeShareGroupOffsetsRequestUptoCard

/-- THE SECOND FORM's CARD OF 'laws.FnTellDescribeUserSCRAMCredentialsRequest'. -/
def fnTellDescribeUserSCRAMCredentialsRequestUptoCard : Claim7 := { stood := { row := fnTellDescribeUserSCRAMCredentialsRequestUptoRow, standIns := [], harness := (true, "c6827fe9979eef5e800ef8fd08477e5916b94b77582cecfa86b29e1797bfd775"), looks := false }, kinds := [], alts := [], laidByText := true, laidKinds := [.sentinel], laidTests := true, laidLooks := .later }
def FnTellDescribeUserSCRAMCredentialsRequestUptoCardSaid : Prop := Claim7.holds Tryz.pinned (.plain (OpenSpec.upto fnTellDescribeUserSCRAMCredentialsRequestSpec)) fnTellDescribeUserSCRAMCredentialsRequestUptoCard
end Rows
end Go.Proofs.YtfljkhecngpcmaaGreatDoor
