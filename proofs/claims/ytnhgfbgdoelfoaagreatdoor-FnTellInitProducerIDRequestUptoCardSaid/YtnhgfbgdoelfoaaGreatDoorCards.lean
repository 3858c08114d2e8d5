/-
  DERIVED. GIVEN WITH THE SEED: THE CARDS: each row of YtnhgfbgdoelfoaaGreatDoorRows.lean that lists a variable, with what it lists TIED to the program's text (the seventh form; the later family's looks); each row that meets fmt, with fmt's text TOLD by the authors' own Lean function (tested against real Go, not proved from fmt's source: count such statements apart). THE CARD IS WHAT COUNTS. Prove the row's statement (the work); the ties are given (YtnhgfbgdoelfoaaGreatDoorTie.lean); close each card by the builder's one call (the guide's Derived/Test/ToyasCard.lean, 'card_holds'). Laid BY PROGRAM, IN A SANDBOX (cutbox-door.mjs). By AI agents, Wed Nov 11 2026. No macro, syntax, notation, axiom, sorry.
-/
import Derived.Test.YtnhgfbgdoelfoaaGreatDoorRows
import GoSem.ClaimSeven
namespace Go.Proofs.YtnhgfbgdoelfoaaGreatDoor
namespace Rows

/-- THE TIED CARD OF 'laws.FnBehindAlterReplicaLogDirsRequest'. -/
def fnBehindAlterReplicaLogDirsRequestCard : Claim7 := { stood := { row := fnBehindAlterReplicaLogDirsRequestRow, standIns := [], harness := (true, "544f600f44352b395bebee5b6e6fddcfa705bf5f980908fbd89542c657c23d94"), looks := false }, kinds := [], alts := [], laidByText := true, laidKinds := [.sentinel], laidTests := true, laidLooks := .later }
def FnBehindAlterReplicaLogDirsRequestCardSaid : Prop := Claim7.holds Tryz.pinned (.plain (OpenSpec.ofChange fnBehindAlterReplicaLogDirsRequestSpec)) fnBehindAlterReplicaLogDirsRequestCard

/-- THE TIED CARD OF 'laws.FnBehindWriteShareGroupStateResponse'. -/
def fnBehindWriteShareGroupStateResponseCard : Claim7 := { stood := { row := fnBehindWriteShareGroupStateResponseRow, standIns := [], harness := (true, "544f600f44352b395bebee5b6e6fddcfa705bf5f980908fbd89542c657c23d94"), looks := false }, kinds := [], alts := [], laidByText := true, laidKinds := [.sentinel], laidTests := true, laidLooks := .later }
def FnBehindWriteShareGroupStateResponseCardSaid : Prop := Claim7.holds Tryz.pinned (.plain (OpenSpec.ofChange fnBehindWriteShareGroupStateResponseSpec)) fnBehindWriteShareGroupStateResponseCard

/-- THE TIED CARD OF 'laws.FnBehindListOffsetsRequest'. -/
def fnBehindListOffsetsRequestCard : Claim7 := { stood := { row := fnBehindListOffsetsRequestRow, standIns := [], harness := (true, "544f600f44352b395bebee5b6e6fddcfa705bf5f980908fbd89542c657c23d94"), looks := false }, kinds := [], alts := [], laidByText := true, laidKinds := [.sentinel], laidTests := true, laidLooks := .later }
def FnBehindListOffsetsRequestCardSaid : Prop := Claim7.holds Tryz.pinned (.plain (OpenSpec.ofChange fnBehindListOffsetsRequestSpec)) fnBehindListOffsetsRequestCard

/-- THE TIED CARD OF 'laws.FnBehindAlterShareGroupOffsetsResponse'. -/
def fnBehindAlterShareGroupOffsetsResponseCard : Claim7 := { stood := { row := fnBehindAlterShareGroupOffsetsResponseRow, standIns := [], harness := (true, "544f600f44352b395bebee5b6e6fddcfa705bf5f980908fbd89542c657c23d94"), looks := false }, kinds := [], alts := [], laidByText := true, laidKinds := [.sentinel], laidTests := true, laidLooks := .later }
def FnBehindAlterShareGroupOffsetsResponseCardSaid : Prop := Claim7.holds Tryz.pinned (.plain (OpenSpec.ofChange fnBehindAlterShareGroupOffsetsResponseSpec)) fnBehindAlterShareGroupOffsetsResponseCard

/-- THE TIED CARD OF 'laws.FnBehindJoinGroupResponse'. -/
def fnBehindJoinGroupResponseCard : Claim7 := { stood := { row := fnBehindJoinGroupResponseRow, standIns := [], harness := (true, "544f600f44352b395bebee5b6e6fddcfa705bf5f980908fbd89542c657c23d94"), looks := false }, kinds := [], alts := [], laidByText := true, laidKinds := [.sentinel], laidTests := true, laidLooks := .later }
def FnBehindJoinGroupResponseCardSaid : Prop := Claim7.holds Tryz.pinned (.plain (OpenSpec.ofChange fnBehindJoinGroupResponseSpec)) fnBehindJoinGroupResponseCard

/-- THE TIED CARD OF 'laws.FnBehindProduceResponse'. -/
def fnBehindProduceResponseCard : Claim7 := { stood := { row := fnBehindProduceResponseRow, standIns := [], harness := (true, "544f600f44352b395bebee5b6e6fddcfa705bf5f980908fbd89542c657c23d94"), looks := false }, kinds := [], alts := [], laidByText := true, laidKinds := [.sentinel], laidTests := true, laidLooks := .later }
def FnBehindProduceResponseCardSaid : Prop := Claim7.holds Tryz.pinned (.plain (OpenSpec.ofChange fnBehindProduceResponseSpec)) fnBehindProduceResponseCard

/-- THE TIED CARD OF 'laws.FnTellInitProducerIDRequest'. -/
def fnTellInitProducerIDRequestCard : Claim7 := { stood := { row := fnTellInitProducerIDRequestRow, standIns := [], harness := (true, "544f600f44352b395bebee5b6e6fddcfa705bf5f980908fbd89542c657c23d94"), looks := false }, kinds := [], alts := [], laidByText := true, laidKinds := [.sentinel], laidTests := true, laidLooks := .later }
def FnTellInitProducerIDRequestCardSaid : Prop := Claim7.holds Tryz.pinned (.plain (OpenSpec.ofChange fnTellInitProducerIDRequestSpec)) fnTellInitProducerIDRequestCard

/-- THE SECOND FORM's CARD OF 'laws.FnBehindAlterReplicaLogDirsRequest'. -/
def fnBehindAlterReplicaLogDirsRequestUptoCard : Claim7 := { stood := { row := fnBehindAlterReplicaLogDirsRequestUptoRow, standIns := [], harness := (true, "544f600f44352b395bebee5b6e6fddcfa705bf5f980908fbd89542c657c23d94"), looks := false }, kinds := [], alts := [], laidByText := true, laidKinds := [.sentinel], laidTests := true, laidLooks := .later }
def FnBehindAlterReplicaLogDirsRequestUptoCardSaid : Prop := Claim7.holds Tryz.pinned (.plain (OpenSpec.upto fnBehindAlterReplicaLogDirsRequestSpec)) fnBehindAlterReplicaLogDirsRequestUptoCard

/-- THE SECOND FORM's CARD OF 'laws.FnBehindWriteShareGroupStateResponse'. -/
def fnBehindWriteShareGroupStateResponseUptoCard : Claim7 := { stood := { row := fnBehindWriteShareGroupStateResponseUptoRow, standIns := [], harness := (true, "544f600f44352b395bebee5b6e6fddcfa705bf5f980908fbd89542c657c23d94"), looks := false }, kinds := [], alts := [], laidByText := true, laidKinds := [.sentinel], laidTests := true, laidLooks := .later }
def FnBehindWriteShareGroupStateResponseUptoCardSaid : Prop := Claim7.holds Tryz.pinned (.plain (OpenSpec.upto fnBehindWriteShareGroupStateResponseSpec)) fnBehindWriteShareGroupStateResponseUptoCard

/-- THE SECOND FORM's CARD OF 'laws.FnBehindListOffsetsRequest'. -/
def fnBehindListOffsetsRequestUptoCard : Claim7 := { stood := { row := fnBehindListOffsetsRequestUptoRow, standIns := [], harness := (true, "544f600f44352b395bebee5b6e6fddcfa705bf5f980908fbd89542c657c23d94"), looks := false }, kinds := [], alts := [], laidByText := true, laidKinds := [.sentinel], laidTests := true, laidLooks := .later }
def FnBehindListOffsetsRequestUptoCardSaid : Prop := Claim7.holds Tryz.pinned (.plain (OpenSpec.upto fnBehindListOffsetsRequestSpec)) fnBehindListOffsetsRequestUptoCard

/-- THE SECOND FORM's CARD OF 'laws.FnBehindAlterShareGroupOffsetsResponse'. -/
def fnBehindAlterShareGroupOffsetsResponseUptoCard : Claim7 := { stood := { row := fnBehindAlterShareGroupOffsetsResponseUptoRow, standIns := [], harness := (true, "544f600f44352b395bebee5b6e6fddcfa705bf5f980908fbd89542c657c23d94"), looks := false }, kinds := [], alts := [], laidByText := true, laidKinds := [.sentinel], laidTests := true, laidLooks := .later }
def FnBehindAlterShareGroupOffsetsResponseUptoCardSaid : Prop := Claim7.holds Tryz.pinned (.plain (OpenSpec.upto fnBehindAlterShareGroupOffsetsResponseSpec)) fnBehindAlterShareGroupOffsetsResponseUptoCard

/-- THE SECOND FORM's CARD OF 'laws.FnBehindJoinGroupResponse'. -/
def fnBehindJoinGroupResponseUptoCard : Claim7 := { stood := { row := fnBehindJoinGroupResponseUptoRow, standIns := [], harness := (true, "544f600f44352b395bebee5b6e6fddcfa705bf5f980908fbd89542c657c23d94"), looks := false }, kinds := [], alts := [], laidByText := true, laidKinds := [.sentinel], laidTests := true, laidLooks := .later }
def FnBehindJoinGroupResponseUptoCardSaid : Prop := Claim7.holds Tryz.pinned (.plain (OpenSpec.upto fnBehindJoinGroupResponseSpec)) fnBehindJoinGroupResponseUptoCard

/-- THE SECOND FORM's CARD OF 'laws.FnBehindProduceResponse'. -/
def fnBehindProduceResponseUptoCard : Claim7 := { stood := { row := fnBehindProduceResponseUptoRow, standIns := [], harness := (true, "544f600f44352b395bebee5b6e6fddcfa705bf5f980908fbd89542c657c23d94"), looks := false }, kinds := [], alts := [], laidByText := true, laidKinds := [.sentinel], laidTests := true, laidLooks := .later }
def FnBehindProduceResponseUptoCardSaid : Prop := Claim7.holds Tryz.pinned (.plain (OpenSpec.upto fnBehindProduceResponseSpec)) fnBehindProduceResponseUptoCard

/-- THE SECOND FORM's CARD OF 'laws.FnTellInitProducerIDRequest'. -/
def fnTellInitProducerIDRequestUptoCard : Claim7 := { stood := { row := fnTellInitProducerIDRequestUptoRow, standIns := [], harness := (true, "544f600f44352b395bebee5b6e6fddcfa705bf5f980908fbd89542c657c23d94"), looks := false }, kinds := [], alts := [], laidByText := true, laidKinds := [.sentinel], laidTests := true, laidLooks := .later }
def FnTellInitProducerIDRequestUptoCardSaid : Prop := Claim7.holds Tryz.pinned (.plain (OpenSpec.upto fnTellInitProducerIDRequestSpec)) fnTellInitProducerIDRequestUptoCard
end Rows
end Go.Proofs.YtnhgfbgdoelfoaaGreatDoor
