/-
  DERIVED. GIVEN WITH THE SEED: THE CARDS: each row of YtgolpmkenmedoaaGreatDoorRows.lean that lists a variable, with what it lists TIED to the program's text (the seventh form; the later family's looks); each row that meets fmt, with fmt's text TOLD by the authors' own Lean function (tested against real Go, not proved from fmt's source: count such statements apart). THE CARD IS WHAT COUNTS. Prove the row's statement (the work); the ties are given (YtgolpmkenmedoaaGreatDoorTie.lean); close each card by the builder's one call (the guide's Derived/Test/ToyasCard.lean, 'card_holds'). Laid BY PROGRAM, IN A SANDBOX (cutbox-door.mjs). By AI agents, Wed Nov 11 2026. No macro, syntax, notation, axiom, sorry.
-/
import Derived.Test.YtgolpmkenmedoaaGreatDoorRows
import GoSem.ClaimSeven
namespace Go.Proofs.YtgolpmkenmedoaaGreatDoor
namespace Rows

/-- THE TIED CARD OF 'laws.FnTellDescribeUserSCRAMCredentialsRequest'. -/
def fnTellDescribeUserSCRAMCredentialsRequestCard : Claim7 := { stood := { row := fnTellDescribeUserSCRAMCredentialsRequestRow, standIns := [], harness := (true, "614cd41e46dcdbf0b68267fc7f34e14ab15f162642c426ca6fe4047575bac593"), looks := false }, kinds := [], alts := [], laidByText := true, laidKinds := [.sentinel], laidTests := true, laidLooks := .later }
def FnTellDescribeUserSCRAMCredentialsRequestCardSaid : Prop := Claim7.holds Tryz.pinned (.plain (OpenSpec.ofChange fnTellDescribeUserSCRAMCredentialsRequestSpec)) fnTellDescribeUserSCRAMCredentialsRequestCard

/-- THE TIED CARD OF 'laws.FnTellDeleteShareGroupOffsetsRequest'. -/
def fnTellDeleteShareGroupOffsetsRequestCard : Claim7 := { stood := { row := fnTellDeleteShareGroupOffsetsRequestRow, standIns := [], harness := (true, "614cd41e46dcdbf0b68267fc7f34e14ab15f162642c426ca6fe4047575bac593"), looks := false }, kinds := [], alts := [], laidByText := true, laidKinds := [.sentinel], laidTests := true, laidLooks := .later }
def FnTellDeleteShareGroupOffsetsRequestCardSaid : Prop := Claim7.holds Tryz.pinned (.plain (OpenSpec.ofChange fnTellDeleteShareGroupOffsetsRequestSpec)) fnTellDeleteShareGroupOffsetsRequestCard

/-- THE TIED CARD OF 'laws.FnTellDescribeACLsRequest'. -/
def fnTellDescribeACLsRequestCard : Claim7 := { stood := { row := fnTellDescribeACLsRequestRow, standIns := [], harness := (true, "614cd41e46dcdbf0b68267fc7f34e14ab15f162642c426ca6fe4047575bac593"), looks := false }, kinds := [], alts := [], laidByText := true, laidKinds := [.sentinel], laidTests := true, laidLooks := .later }
def FnTellDescribeACLsRequestCardSaid : Prop := Claim7.holds Tryz.pinned (.plain (OpenSpec.ofChange fnTellDescribeACLsRequestSpec)) fnTellDescribeACLsRequestCard

/-- THE TIED CARD OF 'laws.FnTellCreatePartitionsResponse'. -/
def fnTellCreatePartitionsResponseCard : Claim7 := { stood := { row := fnTellCreatePartitionsResponseRow, standIns := [], harness := (true, "614cd41e46dcdbf0b68267fc7f34e14ab15f162642c426ca6fe4047575bac593"), looks := false }, kinds := [], alts := [], laidByText := true, laidKinds := [.sentinel], laidTests := true, laidLooks := .later }
def FnTellCreatePartitionsResponseCardSaid : Prop := Claim7.holds Tryz.pinned (.plain (OpenSpec.ofChange fnTellCreatePartitionsResponseSpec)) fnTellCreatePartitionsResponseCard

/-- THE TIED CARD OF 'laws.FnTellDeleteGroupsResponse'. -/
def fnTellDeleteGroupsResponseCard : Claim7 := { stood := { row := fnTellDeleteGroupsResponseRow, standIns := [], harness := (true, "614cd41e46dcdbf0b68267fc7f34e14ab15f162642c426ca6fe4047575bac593"), looks := false }, kinds := [], alts := [], laidByText := true, laidKinds := [.sentinel], laidTests := true, laidLooks := .later }
def FnTellDeleteGroupsResponseCardSaid : Prop := Claim7.holds Tryz.pinned (.plain (OpenSpec.ofChange fnTellDeleteGroupsResponseSpec)) fnTellDeleteGroupsResponseCard

/-- THE TIED CARD OF 'laws.FnTellAssignReplicasToDirsResponse'. -/
def fnTellAssignReplicasToDirsResponseCard : Claim7 := { stood := { row := fnTellAssignReplicasToDirsResponseRow, standIns := [], harness := (true, "614cd41e46dcdbf0b68267fc7f34e14ab15f162642c426ca6fe4047575bac593"), looks := false }, kinds := [], alts := [], laidByText := true, laidKinds := [.sentinel], laidTests := true, laidLooks := .later }
def FnTellAssignReplicasToDirsResponseCardSaid : Prop := Claim7.holds Tryz.pinned (.plain (OpenSpec.ofChange fnTellAssignReplicasToDirsResponseSpec)) fnTellAssignReplicasToDirsResponseCard

/-- THE TIED CARD OF 'laws.FnTellDeleteShareGroupStateResponse'. -/
def fnTellDeleteShareGroupStateResponseCard : Claim7 := { stood := { row := fnTellDeleteShareGroupStateResponseRow, standIns := [], harness := (true, "614cd41e46dcdbf0b68267fc7f34e14ab15f162642c426ca6fe4047575bac593"), looks := false }, kinds := [], alts := [], laidByText := true, laidKinds := [.sentinel], laidTests := true, laidLooks := .later }
def FnTellDeleteShareGroupStateResponseCardSaid : Prop := Claim7.holds Tryz.pinned (.plain (OpenSpec.ofChange fnTellDeleteShareGroupStateResponseSpec)) fnTellDeleteShareGroupStateResponseCard

/-- THE TIED CARD OF 'laws.FnTellDescribeShareGroupOffsetsRequest'. -/
def fnTellDescribeShareGroupOffsetsRequestCard : Claim7 := { stood := { row := fnTellDescribeShareGroupOffsetsRequestRow, standIns := [], harness := (true, "614cd41e46dcdbf0b68267fc7f34e14ab15f162642c426ca6fe4047575bac593"), looks := false }, kinds := [], alts := [], laidByText := true, laidKinds := [.sentinel], laidTests := true, laidLooks := .later }
def FnTellDescribeShareGroupOffsetsRequestCardSaid : Prop := Claim7.holds Tryz.pinned (.plain (OpenSpec.ofChange fnTellDescribeShareGroupOffsetsRequestSpec)) fnTellDescribeShareGroupOffsetsRequestCard

/-- THE TIED CARD OF 'laws.FnTellDeleteACLsRequest'. -/
def fnTellDeleteACLsRequestCard : Claim7 := { stood := { row := fnTellDeleteACLsRequestRow, standIns := [], harness := (true, "614cd41e46dcdbf0b68267fc7f34e14ab15f162642c426ca6fe4047575bac593"), looks := false }, kinds := [], alts := [], laidByText := true, laidKinds := [.sentinel], laidTests := true, laidLooks := .later }
def FnTellDeleteACLsRequestCardSaid : Prop := Claim7.holds Tryz.pinned (.plain (OpenSpec.ofChange fnTellDeleteACLsRequestSpec)) fnTellDeleteACLsRequestCard

/-- THE TIED CARD OF 'laws.FnTellListPartitionReassignmentsResponse'. -/
def fnTellListPartitionReassignmentsResponseCard : Claim7 := { stood := { row := fnTellListPartitionReassignmentsResponseRow, standIns := [], harness := (true, "614cd41e46dcdbf0b68267fc7f34e14ab15f162642c426ca6fe4047575bac593"), looks := false }, kinds := [], alts := [], laidByText := true, laidKinds := [.sentinel], laidTests := true, laidLooks := .later }
def FnTellListPartitionReassignmentsResponseCardSaid : Prop := Claim7.holds Tryz.pinned (.plain (OpenSpec.ofChange fnTellListPartitionReassignmentsResponseSpec)) fnTellListPartitionReassignmentsResponseCard

/-- THE SECOND FORM's CARD OF 'laws.FnTellDescribeUserSCRAMCredentialsRequest'. -/
def fnTellDescribeUserSCRAMCredentialsRequestUptoCard : Claim7 := { stood := { row := fnTellDescribeUserSCRAMCredentialsRequestUptoRow, standIns := [], harness := (true, "614cd41e46dcdbf0b68267fc7f34e14ab15f162642c426ca6fe4047575bac593"), looks := false }, kinds := [], alts := [], laidByText := true, laidKinds := [.sentinel], laidTests := true, laidLooks := .later }
def FnTellDescribeUserSCRAMCredentialsRequestUptoCardSaid : Prop := Claim7.holds Tryz.pinned (.plain (OpenSpec.upto fnTellDescribeUserSCRAMCredentialsRequestSpec)) fnTellDescribeUserSCRAMCredentialsRequestUptoCard

/-- THE SECOND FORM's CARD OF 'laws.FnTellDeleteShareGroupOffsetsRequest'. -/
def fnTellDeleteShareGroupOffsetsRequestUptoCard : Claim7 := { stood := { row := fnTellDeleteShareGroupOffsetsRequestUptoRow, standIns := [], harness := (true, "614cd41e46dcdbf0b68267fc7f34e14ab15f162642c426ca6fe4047575bac593"), looks := false }, kinds := [], alts := [], laidByText := true, laidKinds := [.sentinel], laidTests := true, laidLooks := .later }
def FnTellDeleteShareGroupOffsetsRequestUptoCardSaid : Prop := Claim7.holds Tryz.pinned (.plain (OpenSpec.upto fnTellDeleteShareGroupOffsetsRequestSpec)) fnTellDeleteShareGroupOffsetsRequestUptoCard

/-- THE SECOND FORM's CARD OF 'laws.FnTellDescribeACLsRequest'. -/
def fnTellDescribeACLsRequestUptoCard : Claim7 := { stood := { row := fnTellDescribeACLsRequestUptoRow, standIns := [], harness := (true, "614cd41e46dcdbf0b68267fc7f34e14ab15f162642c426ca6fe4047575bac593"), looks := false }, kinds := [], alts := [], laidByText := true, laidKinds := [.sentinel], laidTests := true, laidLooks := .later }
def FnTellDescribeACLsRequestUptoCardSaid : Prop := Claim7.holds Tryz.pinned (.plain (OpenSpec.upto fnTellDescribeACLsRequestSpec)) fnTellDescribeACLsRequestUptoCard

/-- THE SECOND FORM's CARD OF 'laws.FnTellCreatePartitionsResponse'. -/
def fnTellCreatePartitionsResponseUptoCard : Claim7 := { stood := { row := fnTellCreatePartitionsResponseUptoRow, standIns := [], harness := (true, "614cd41e46dcdbf0b68267fc7f34e14ab15f162642c426ca6fe4047575bac593"), looks := false }, kinds := [], alts := [], laidByText := true, laidKinds := [.sentinel], laidTests := true, laidLooks := .later }
def FnTellCreatePartitionsResponseUptoCardSaid : Prop := Claim7.holds Tryz.pinned (.plain (OpenSpec.upto fnTellCreatePartitionsResponseSpec)) fnTellCreatePartitionsResponseUptoCard

/-- THE SECOND FORM's CARD OF 'laws.FnTellDeleteGroupsResponse'. -/
def fnTellDeleteGroupsResponseUptoCard : Claim7 := { stood := { row := fnTellDeleteGroupsResponseUptoRow, standIns := [], harness := (true, "614cd41e46dcdbf0b68267fc7f34e14ab15f162642c426ca6fe4047575bac593"), looks := false }, kinds := [], alts := [], laidByText := true, laidKinds := [.sentinel], laidTests := true, laidLooks := .later }
def FnTellDeleteGroupsResponseUptoCardSaid : Prop := Claim7.holds Tryz.pinned (.plain (OpenSpec.upto fnTellDeleteGroupsResponseSpec)) fnTellDeleteGroupsResponseUptoCard

/-- THE SECOND FORM's CARD OF 'laws.FnTellAssignReplicasToDirsResponse'. -/
def fnTellAssignReplicasToDirsResponseUptoCard : Claim7 := { stood := { row := fnTellAssignReplicasToDirsResponseUptoRow, standIns := [], harness := (true, "614cd41e46dcdbf0b68267fc7f34e14ab15f162642c426ca6fe4047575bac593"), looks := false }, kinds := [], alts := [], laidByText := true, laidKinds := [.sentinel], laidTests := true, laidLooks := .later }
def FnTellAssignReplicasToDirsResponseUptoCardSaid : Prop := Claim7.holds Tryz.pinned (.plain (OpenSpec.upto fnTellAssignReplicasToDirsResponseSpec)) fnTellAssignReplicasToDirsResponseUptoCard

/-- THE SECOND FORM's CARD OF 'laws.FnTellDeleteShareGroupStateResponse'. -/
def fnTellDeleteShareGroupStateResponseUptoCard : Claim7 := { stood := { row := fnTellDeleteShareGroupStateResponseUptoRow, standIns := [], harness := (true, "614cd41e46dcdbf0b68267fc7f34e14ab15f162642c426ca6fe4047575bac593"), looks := false }, kinds := [], alts := [], laidByText := true, laidKinds := [.sentinel], laidTests := true, laidLooks := .later }
def FnTellDeleteShareGroupStateResponseUptoCardSaid : Prop := Claim7.holds Tryz.pinned (.plain (OpenSpec.upto fnTellDeleteShareGroupStateResponseSpec)) fnTellDeleteShareGroupStateResponseUptoCard

/-- THE SECOND FORM's CARD OF 'laws.FnTellDescribeShareGroupOffsetsRequest'. -/
def fnTellDescribeShareGroupOffsetsRequestUptoCard : Claim7 := { stood := { row := fnTellDescribeShareGroupOffsetsRequestUptoRow, standIns := [], harness := (true, "614cd41e46dcdbf0b68267fc7f34e14ab15f162642c426ca6fe4047575bac593"), looks := false }, kinds := [], alts := [], laidByText := true, laidKinds := [.sentinel], laidTests := true, laidLooks := .later }
def FnTellDescribeShareGroupOffsetsRequestUptoCardSaid : Prop := Claim7.holds Tryz.pinned (.plain (OpenSpec.upto fnTellDescribeShareGroupOffsetsRequestSpec)) fnTellDescribeShareGroupOffsetsRequestUptoCard

/-- THE SECOND FORM's CARD OF 'laws.FnTellDeleteACLsRequest'. -/
def fnTellDeleteACLsRequestUptoCard : Claim7 := { stood := { row := fnTellDeleteACLsRequestUptoRow, standIns := [], harness := (true, "614cd41e46dcdbf0b68267fc7f34e14ab15f162642c426ca6fe4047575bac593"), looks := false }, kinds := [], alts := [], laidByText := true, laidKinds := [.sentinel], laidTests := true, laidLooks := .later }
def FnTellDeleteACLsRequestUptoCardSaid : Prop := Claim7.holds Tryz.pinned (.plain (OpenSpec.upto fnTellDeleteACLsRequestSpec)) fnTellDeleteACLsRequestUptoCard

/-- THE SECOND FORM's CARD OF 'laws.FnTellListPartitionReassignmentsResponse'. -/
def fnTellListPartitionReassignmentsResponseUptoCard : Claim7 := { stood := { row := fnTellListPartitionReassignmentsResponseUptoRow, standIns := [], harness := (true, "614cd41e46dcdbf0b68267fc7f34e14ab15f162642c426ca6fe4047575bac593"), looks := false }, kinds := [], alts := [], laidByText := true, laidKinds := [.sentinel], laidTests := true, laidLooks := .later }
def FnTellListPartitionReassignmentsResponseUptoCardSaid : Prop := Claim7.holds Tryz.pinned (.plain (OpenSpec.upto fnTellListPartitionReassignmentsResponseSpec)) fnTellListPartitionReassignmentsResponseUptoCard
end Rows
end Go.Proofs.YtgolpmkenmedoaaGreatDoor
