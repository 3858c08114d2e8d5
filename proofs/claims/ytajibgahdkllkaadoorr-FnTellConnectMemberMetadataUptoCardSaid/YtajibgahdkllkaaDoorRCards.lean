/-
  DERIVED. GIVEN WITH THE SEED: THE CARDS: each row of YtajibgahdkllkaaDoorRRows.lean that lists a variable, with what it lists TIED to the program's text (the seventh form; the later family's looks); each row that meets fmt, with fmt's text TOLD by the authors' own Lean function (tested against real Go, not proved from fmt's source: count such statements apart). THE CARD IS WHAT COUNTS. Prove the row's statement (the work); the ties are given (YtajibgahdkllkaaDoorRTie.lean); close each card by the builder's one call (the guide's Derived/Test/ToyasCard.lean, 'card_holds'). Laid BY PROGRAM, IN A SANDBOX (cutbox-door.mjs). By AI agents, Wed Nov 11 2026. No macro, syntax, notation, axiom, sorry.
-/
import Derived.Test.YtajibgahdkllkaaDoorRRows
import GoSem.ClaimSeven
namespace Go.Proofs.YtajibgahdkllkaaDoorR
namespace Rows

/-- THE TIED CARD OF 'laws.FnUnsafeOffsetCommitKey'. -/
def fnUnsafeOffsetCommitKeyCard : Claim7 := { stood := { row := fnUnsafeOffsetCommitKeyRow, standIns := [], harness := (true, "a6a6c734071e0474f412edb84c5650c04c7e9ca1cd5d5e223f5db95d52a613e8"), looks := false }, kinds := [], alts := [], laidByText := true, laidKinds := [.sentinel], laidTests := true, laidLooks := .later }
def FnUnsafeOffsetCommitKeyCardSaid : Prop := Claim7.holds Tryd.pinned (.plain (OpenSpec.ofChange fnUnsafeOffsetCommitKeySpec)) fnUnsafeOffsetCommitKeyCard

/-- THE TIED CARD OF 'laws.FnUnsafeListConfigResourcesResponse'. -/
def fnUnsafeListConfigResourcesResponseCard : Claim7 := { stood := { row := fnUnsafeListConfigResourcesResponseRow, standIns := [], harness := (true, "a6a6c734071e0474f412edb84c5650c04c7e9ca1cd5d5e223f5db95d52a613e8"), looks := false }, kinds := [], alts := [], laidByText := true, laidKinds := [.sentinel], laidTests := true, laidLooks := .later }
def FnUnsafeListConfigResourcesResponseCardSaid : Prop := Claim7.holds Tryd.pinned (.plain (OpenSpec.ofChange fnUnsafeListConfigResourcesResponseSpec)) fnUnsafeListConfigResourcesResponseCard

/-- THE TIED CARD OF 'laws.FnUnsafeLeaveGroupRequest'. -/
def fnUnsafeLeaveGroupRequestCard : Claim7 := { stood := { row := fnUnsafeLeaveGroupRequestRow, standIns := [], harness := (true, "a6a6c734071e0474f412edb84c5650c04c7e9ca1cd5d5e223f5db95d52a613e8"), looks := false }, kinds := [], alts := [], laidByText := true, laidKinds := [.sentinel], laidTests := true, laidLooks := .later }
def FnUnsafeLeaveGroupRequestCardSaid : Prop := Claim7.holds Tryd.pinned (.plain (OpenSpec.ofChange fnUnsafeLeaveGroupRequestSpec)) fnUnsafeLeaveGroupRequestCard

/-- THE TIED CARD OF 'laws.FnTellConnectMemberMetadata'. -/
def fnTellConnectMemberMetadataCard : Claim7 := { stood := { row := fnTellConnectMemberMetadataRow, standIns := [], harness := (true, "a6a6c734071e0474f412edb84c5650c04c7e9ca1cd5d5e223f5db95d52a613e8"), looks := false }, kinds := [], alts := [], laidByText := true, laidKinds := [.sentinel], laidTests := true, laidLooks := .later }
def FnTellConnectMemberMetadataCardSaid : Prop := Claim7.holds Tryd.pinned (.plain (OpenSpec.ofChange fnTellConnectMemberMetadataSpec)) fnTellConnectMemberMetadataCard

/-- THE SECOND FORM's CARD OF 'laws.FnUnsafeOffsetCommitKey'. -/
def fnUnsafeOffsetCommitKeyUptoCard : Claim7 := { stood := { row := fnUnsafeOffsetCommitKeyUptoRow, standIns := [], harness := (true, "a6a6c734071e0474f412edb84c5650c04c7e9ca1cd5d5e223f5db95d52a613e8"), looks := false }, kinds := [], alts := [], laidByText := true, laidKinds := [.sentinel], laidTests := true, laidLooks := .later }
def FnUnsafeOffsetCommitKeyUptoCardSaid : Prop := Claim7.holds Tryd.pinned (.plain (OpenSpec.upto fnUnsafeOffsetCommitKeySpec)) fnUnsafeOffsetCommitKeyUptoCard

/-- THE SECOND FORM's CARD OF 'laws.FnUnsafeListConfigResourcesResponse'. -/
def fnUnsafeListConfigResourcesResponseUptoCard : Claim7 := { stood := { row := fnUnsafeListConfigResourcesResponseUptoRow, standIns := [], harness := (true, "a6a6c734071e0474f412edb84c5650c04c7e9ca1cd5d5e223f5db95d52a613e8"), looks := false }, kinds := [], alts := [], laidByText := true, laidKinds := [.sentinel], laidTests := true, laidLooks := .later }
def FnUnsafeListConfigResourcesResponseUptoCardSaid : Prop := Claim7.holds Tryd.pinned (.plain (OpenSpec.upto fnUnsafeListConfigResourcesResponseSpec)) fnUnsafeListConfigResourcesResponseUptoCard

/-- THE SECOND FORM's CARD OF 'laws.FnUnsafeLeaveGroupRequest'. -/
def fnUnsafeLeaveGroupRequestUptoCard : Claim7 := { stood := { row := fnUnsafeLeaveGroupRequestUptoRow, standIns := [], harness := (true, "a6a6c734071e0474f412edb84c5650c04c7e9ca1cd5d5e223f5db95d52a613e8"), looks := false }, kinds := [], alts := [], laidByText := true, laidKinds := [.sentinel], laidTests := true, laidLooks := .later }
def FnUnsafeLeaveGroupRequestUptoCardSaid : Prop := Claim7.holds Tryd.pinned (.plain (OpenSpec.upto fnUnsafeLeaveGroupRequestSpec)) fnUnsafeLeaveGroupRequestUptoCard

/-- THE SECOND FORM's CARD OF 'laws.FnTellConnectMemberMetadata'. -/
def fnTellConnectMemberMetadataUptoCard : Claim7 := { stood := { row := fnTellConnectMemberMetadataUptoRow, standIns := [], harness := (true, "a6a6c734071e0474f412edb84c5650c04c7e9ca1cd5d5e223f5db95d52a613e8"), looks := false }, kinds := [], alts := [], laidByText := true, laidKinds := [.sentinel], laidTests := true, laidLooks := .later }
def FnTellConnectMemberMetadataUptoCardSaid : Prop := Claim7.holds Tryd.pinned (.plain (OpenSpec.upto fnTellConnectMemberMetadataSpec)) fnTellConnectMemberMetadataUptoCard
end Rows
end Go.Proofs.YtajibgahdkllkaaDoorR
