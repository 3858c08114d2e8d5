/-
  DERIVED. GIVEN WITH THE SEED: THE CARDS: each row of YtcbpjflgkefidaaGreatDoorRows.lean that lists a variable, with what it lists TIED to the program's text (the seventh form; the later family's looks); each row that meets fmt, with fmt's text TOLD by the authors' own Lean function (tested against real Go, not proved from fmt's source: count such statements apart). THE CARD IS WHAT COUNTS. Prove the row's statement (the work); the ties are given (YtcbpjflgkefidaaGreatDoorTie.lean); close each card by the builder's one call (the guide's Derived/Test/ToyasCard.lean, 'card_holds'). Laid BY PROGRAM, IN A SANDBOX (cutbox-door.mjs). By AI agents, Wed Nov 11 2026. No macro, syntax, notation, axiom, sorry.
-/
import Derived.Test.YtcbpjflgkefidaaGreatDoorRows
import GoSem.ClaimSeven
namespace Go.Proofs.YtcbpjflgkefidaaGreatDoor
namespace Rows

/-- THE TIED CARD OF 'laws.FnDefaultAlterPartitionAssignmentsResponse'. -/
def fnDefaultAlterPartitionAssignmentsResponseCard : Claim7 := { stood := { row := fnDefaultAlterPartitionAssignmentsResponseRow, standIns := [], harness := (true, "882275f5efa4b90adffce859da3999ceb511b46010b0bc3d6a98a981866c2e1f"), looks := false }, kinds := [], alts := [], laidByText := true, laidKinds := [.sentinel], laidTests := true, laidLooks := .later }
def FnDefaultAlterPartitionAssignmentsResponseCardSaid : Prop := Claim7.holds Tryz.pinned (.plain (OpenSpec.ofChange fnDefaultAlterPartitionAssignmentsResponseSpec)) fnDefaultAlterPartitionAssignmentsResponseCard

/-- THE TIED CARD OF 'laws.FnDefaultDescribeClusterResponse'. -/
def fnDefaultDescribeClusterResponseCard : Claim7 := { stood := { row := fnDefaultDescribeClusterResponseRow, standIns := [], harness := (true, "882275f5efa4b90adffce859da3999ceb511b46010b0bc3d6a98a981866c2e1f"), looks := false }, kinds := [], alts := [], laidByText := true, laidKinds := [.sentinel], laidTests := true, laidLooks := .later }
def FnDefaultDescribeClusterResponseCardSaid : Prop := Claim7.holds Tryz.pinned (.plain (OpenSpec.ofChange fnDefaultDescribeClusterResponseSpec)) fnDefaultDescribeClusterResponseCard

/-- THE TIED CARD OF 'laws.FnDefaultVoteRequest'. -/
def fnDefaultVoteRequestCard : Claim7 := { stood := { row := fnDefaultVoteRequestRow, standIns := [], harness := (true, "882275f5efa4b90adffce859da3999ceb511b46010b0bc3d6a98a981866c2e1f"), looks := false }, kinds := [], alts := [], laidByText := true, laidKinds := [.sentinel], laidTests := true, laidLooks := .later }
def FnDefaultVoteRequestCardSaid : Prop := Claim7.holds Tryz.pinned (.plain (OpenSpec.ofChange fnDefaultVoteRequestSpec)) fnDefaultVoteRequestCard

/-- THE TIED CARD OF 'laws.FnDefaultBrokerRegistrationRequest'. -/
def fnDefaultBrokerRegistrationRequestCard : Claim7 := { stood := { row := fnDefaultBrokerRegistrationRequestRow, standIns := [], harness := (true, "882275f5efa4b90adffce859da3999ceb511b46010b0bc3d6a98a981866c2e1f"), looks := false }, kinds := [], alts := [], laidByText := true, laidKinds := [.sentinel], laidTests := true, laidLooks := .later }
def FnDefaultBrokerRegistrationRequestCardSaid : Prop := Claim7.holds Tryz.pinned (.plain (OpenSpec.ofChange fnDefaultBrokerRegistrationRequestSpec)) fnDefaultBrokerRegistrationRequestCard

/-- THE TIED CARD OF 'laws.FnTellMetadataRequest'. -/
def fnTellMetadataRequestCard : Claim7 := { stood := { row := fnTellMetadataRequestRow, standIns := [], harness := (true, "882275f5efa4b90adffce859da3999ceb511b46010b0bc3d6a98a981866c2e1f"), looks := false }, kinds := [], alts := [], laidByText := true, laidKinds := [.sentinel], laidTests := true, laidLooks := .later }
def FnTellMetadataRequestCardSaid : Prop := Claim7.holds Tryz.pinned (.plain (OpenSpec.ofChange fnTellMetadataRequestSpec)) fnTellMetadataRequestCard

/-- THE TIED CARD OF 'laws.FnTellAddPartitionsToTxnRequest'. -/
def fnTellAddPartitionsToTxnRequestCard : Claim7 := { stood := { row := fnTellAddPartitionsToTxnRequestRow, standIns := [], harness := (true, "882275f5efa4b90adffce859da3999ceb511b46010b0bc3d6a98a981866c2e1f"), looks := false }, kinds := [], alts := [], laidByText := true, laidKinds := [.sentinel], laidTests := true, laidLooks := .later }
def FnTellAddPartitionsToTxnRequestCardSaid : Prop := Claim7.holds Tryz.pinned (.plain (OpenSpec.ofChange fnTellAddPartitionsToTxnRequestSpec)) fnTellAddPartitionsToTxnRequestCard

/-- THE TIED CARD OF 'laws.FnTellShareGroupHeartbeatResponse'. -/
def fnTellShareGroupHeartbeatResponseCard : Claim7 := { stood := { row := fnTellShareGroupHeartbeatResponseRow, standIns := [], harness := (true, "882275f5efa4b90adffce859da3999ceb511b46010b0bc3d6a98a981866c2e1f"), looks := false }, kinds := [], alts := [], laidByText := true, laidKinds := [.sentinel], laidTests := true, laidLooks := .later }
def FnTellShareGroupHeartbeatResponseCardSaid : Prop := Claim7.holds Tryz.pinned (.plain (OpenSpec.ofChange fnTellShareGroupHeartbeatResponseSpec)) fnTellShareGroupHeartbeatResponseCard

/-- THE SECOND FORM's CARD OF 'laws.FnDefaultAlterPartitionAssignmentsResponse'. -/
def fnDefaultAlterPartitionAssignmentsResponseUptoCard : Claim7 := { stood := { row := fnDefaultAlterPartitionAssignmentsResponseUptoRow, standIns := [], harness := (true, "882275f5efa4b90adffce859da3999ceb511b46010b0bc3d6a98a981866c2e1f"), looks := false }, kinds := [], alts := [], laidByText := true, laidKinds := [.sentinel], laidTests := true, laidLooks := .later }
def FnDefaultAlterPartitionAssignmentsResponseUptoCardSaid : Prop := Claim7.holds Tryz.pinned (.plain (OpenSpec.upto fnDefaultAlterPartitionAssignmentsResponseSpec)) fnDefaultAlterPartitionAssignmentsResponseUptoCard

/-- THE SECOND FORM's CARD OF 'laws.FnDefaultDescribeClusterResponse'. -/
def fnDefaultDescribeClusterResponseUptoCard : Claim7 := { stood := { row := fnDefaultDescribeClusterResponseUptoRow, standIns := [], harness := (true, "882275f5efa4b90adffce859da3999ceb511b46010b0bc3d6a98a981866c2e1f"), looks := false }, kinds := [], alts := [], laidByText := true, laidKinds := [.sentinel], laidTests := true, laidLooks := .later }
def FnDefaultDescribeClusterResponseUptoCardSaid : Prop := Claim7.holds Tryz.pinned (.plain (OpenSpec.upto fnDefaultDescribeClusterResponseSpec)) fnDefaultDescribeClusterResponseUptoCard

/-- THE SECOND FORM's CARD OF 'laws.FnDefaultVoteRequest'. -/
def fnDefaultVoteRequestUptoCard : Claim7 := { stood := { row := fnDefaultVoteRequestUptoRow, standIns := [], harness := (true, "882275f5efa4b90adffce859da3999ceb511b46010b0bc3d6a98a981866c2e1f"), looks := false }, kinds := [], alts := [], laidByText := true, laidKinds := [.sentinel], laidTests := true, laidLooks := .later }
def FnDefaultVoteRequestUptoCardSaid : Prop := Claim7.holds Tryz.pinned (.plain (OpenSpec.upto fnDefaultVoteRequestSpec)) fnDefaultVoteRequestUptoCard

/-- THE SECOND FORM's CARD OF 'laws.FnDefaultBrokerRegistrationRequest'. -/
def fnDefaultBrokerRegistrationRequestUptoCard : Claim7 := { stood := { row := fnDefaultBrokerRegistrationRequestUptoRow, standIns := [], harness := (true, "882275f5efa4b90adffce859da3999ceb511b46010b0bc3d6a98a981866c2e1f"), looks := false }, kinds := [], alts := [], laidByText := true, laidKinds := [.sentinel], laidTests := true, laidLooks := .later }
def FnDefaultBrokerRegistrationRequestUptoCardSaid : Prop := Claim7.holds Tryz.pinned (.plain (OpenSpec.upto fnDefaultBrokerRegistrationRequestSpec)) fnDefaultBrokerRegistrationRequestUptoCard

/-- THE SECOND FORM's CARD OF 'laws.FnTellMetadataRequest'. -/
def fnTellMetadataRequestUptoCard : Claim7 := { stood := { row := fnTellMetadataRequestUptoRow, standIns := [], harness := (true, "882275f5efa4b90adffce859da3999ceb511b46010b0bc3d6a98a981866c2e1f"), looks := false }, kinds := [], alts := [], laidByText := true, laidKinds := [.sentinel], laidTests := true, laidLooks := .later }
def FnTellMetadataRequestUptoCardSaid : Prop := Claim7.holds Tryz.pinned (.plain (OpenSpec.upto fnTellMetadataRequestSpec)) fnTellMetadataRequestUptoCard

/-- THE SECOND FORM's CARD OF 'laws.FnTellAddPartitionsToTxnRequest'. -/
def fnTellAddPartitionsToTxnRequestUptoCard : Claim7 := { stood := { row := fnTellAddPartitionsToTxnRequestUptoRow, standIns := [], harness := (true, "882275f5efa4b90adffce859da3999ceb511b46010b0bc3d6a98a981866c2e1f"), looks := false }, kinds := [], alts := [], laidByText := true, laidKinds := [.sentinel], laidTests := true, laidLooks := .later }
def FnTellAddPartitionsToTxnRequestUptoCardSaid : Prop := Claim7.holds Tryz.pinned (.plain (OpenSpec.upto fnTellAddPartitionsToTxnRequestSpec)) fnTellAddPartitionsToTxnRequestUptoCard

/-- THE SECOND FORM's CARD OF 'laws.FnTellShareGroupHeartbeatResponse'. -/
def fnTellShareGroupHeartbeatResponseUptoCard : Claim7 := { stood := { row := fnTellShareGroupHeartbeatResponseUptoRow, standIns := [], harness := (true, "882275f5efa4b90adffce859da3999ceb511b46010b0bc3d6a98a981866c2e1f"), looks := false }, kinds := [], alts := [], laidByText := true, laidKinds := [.sentinel], laidTests := true, laidLooks := .later }
def FnTellShareGroupHeartbeatResponseUptoCardSaid : Prop := Claim7.holds Tryz.pinned (.plain (OpenSpec.upto fnTellShareGroupHeartbeatResponseSpec)) fnTellShareGroupHeartbeatResponseUptoCard
end Rows
end Go.Proofs.YtcbpjflgkefidaaGreatDoor
