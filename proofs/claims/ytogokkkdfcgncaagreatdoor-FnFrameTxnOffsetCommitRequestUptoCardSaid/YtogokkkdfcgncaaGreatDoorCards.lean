/-
  DERIVED. GIVEN WITH THE SEED: THE CARDS: each row of YtogokkkdfcgncaaGreatDoorRows.lean that lists a variable, with what it lists TIED to the program's text (the seventh form; the later family's looks); each row that meets fmt, with fmt's text TOLD by the authors' own Lean function (tested against real Go, not proved from fmt's source: count such statements apart). THE CARD IS WHAT COUNTS. Prove the row's statement (the work); the ties are given (YtogokkkdfcgncaaGreatDoorTie.lean); close each card by the builder's one call (the guide's Derived/Test/ToyasCard.lean, 'card_holds'). Laid BY PROGRAM, IN A SANDBOX (cutbox-door.mjs). By AI agents, Wed Nov 11 2026. No macro, syntax, notation, axiom, sorry.
-/
import Derived.Test.YtogokkkdfcgncaaGreatDoorRows
import GoSem.ClaimSeven
namespace Go.Proofs.YtogokkkdfcgncaaGreatDoor
namespace Rows

/-- THE TIED CARD OF 'laws.FnFrameOffsetCommitRequest'. -/
def fnFrameOffsetCommitRequestCard : Claim7 := { stood := { row := fnFrameOffsetCommitRequestRow, standIns := [], harness := (true, "4665a474083eee65519b98164d97f605d3d93e4f6e3bc25d67bfab7532d006c2"), looks := false }, kinds := [], alts := [], laidByText := true, laidKinds := [.sentinel], laidTests := true, laidLooks := .later }
def FnFrameOffsetCommitRequestCardSaid : Prop := Claim7.holds Tryz.pinned (.plain (OpenSpec.ofChange fnFrameOffsetCommitRequestSpec)) fnFrameOffsetCommitRequestCard

/-- THE TIED CARD OF 'laws.FnFrameTxnOffsetCommitRequest'. -/
def fnFrameTxnOffsetCommitRequestCard : Claim7 := { stood := { row := fnFrameTxnOffsetCommitRequestRow, standIns := [], harness := (true, "4665a474083eee65519b98164d97f605d3d93e4f6e3bc25d67bfab7532d006c2"), looks := false }, kinds := [], alts := [], laidByText := true, laidKinds := [.sentinel], laidTests := true, laidLooks := .later }
def FnFrameTxnOffsetCommitRequestCardSaid : Prop := Claim7.holds Tryz.pinned (.plain (OpenSpec.ofChange fnFrameTxnOffsetCommitRequestSpec)) fnFrameTxnOffsetCommitRequestCard

/-- THE TIED CARD OF 'laws.FnFrameDescribeDelegationTokenRequest'. -/
def fnFrameDescribeDelegationTokenRequestCard : Claim7 := { stood := { row := fnFrameDescribeDelegationTokenRequestRow, standIns := [], harness := (true, "4665a474083eee65519b98164d97f605d3d93e4f6e3bc25d67bfab7532d006c2"), looks := false }, kinds := [], alts := [], laidByText := true, laidKinds := [.sentinel], laidTests := true, laidLooks := .later }
def FnFrameDescribeDelegationTokenRequestCardSaid : Prop := Claim7.holds Tryz.pinned (.plain (OpenSpec.ofChange fnFrameDescribeDelegationTokenRequestSpec)) fnFrameDescribeDelegationTokenRequestCard

/-- THE TIED CARD OF 'laws.FnFrameUpdateFeaturesRequest'. -/
def fnFrameUpdateFeaturesRequestCard : Claim7 := { stood := { row := fnFrameUpdateFeaturesRequestRow, standIns := [], harness := (true, "4665a474083eee65519b98164d97f605d3d93e4f6e3bc25d67bfab7532d006c2"), looks := false }, kinds := [], alts := [], laidByText := true, laidKinds := [.sentinel], laidTests := true, laidLooks := .later }
def FnFrameUpdateFeaturesRequestCardSaid : Prop := Claim7.holds Tryz.pinned (.plain (OpenSpec.ofChange fnFrameUpdateFeaturesRequestSpec)) fnFrameUpdateFeaturesRequestCard

/-- THE TIED CARD OF 'laws.FnFrameReadShareGroupStateRequest'. -/
def fnFrameReadShareGroupStateRequestCard : Claim7 := { stood := { row := fnFrameReadShareGroupStateRequestRow, standIns := [], harness := (true, "4665a474083eee65519b98164d97f605d3d93e4f6e3bc25d67bfab7532d006c2"), looks := false }, kinds := [], alts := [], laidByText := true, laidKinds := [.sentinel], laidTests := true, laidLooks := .later }
def FnFrameReadShareGroupStateRequestCardSaid : Prop := Claim7.holds Tryz.pinned (.plain (OpenSpec.ofChange fnFrameReadShareGroupStateRequestSpec)) fnFrameReadShareGroupStateRequestCard

/-- THE TIED CARD OF 'laws.FnFrameOffsetForLeaderEpochRequest'. -/
def fnFrameOffsetForLeaderEpochRequestCard : Claim7 := { stood := { row := fnFrameOffsetForLeaderEpochRequestRow, standIns := [], harness := (true, "4665a474083eee65519b98164d97f605d3d93e4f6e3bc25d67bfab7532d006c2"), looks := false }, kinds := [], alts := [], laidByText := true, laidKinds := [.sentinel], laidTests := true, laidLooks := .later }
def FnFrameOffsetForLeaderEpochRequestCardSaid : Prop := Claim7.holds Tryz.pinned (.plain (OpenSpec.ofChange fnFrameOffsetForLeaderEpochRequestSpec)) fnFrameOffsetForLeaderEpochRequestCard

/-- THE TIED CARD OF 'laws.FnFrameInitializeShareGroupStateRequest'. -/
def fnFrameInitializeShareGroupStateRequestCard : Claim7 := { stood := { row := fnFrameInitializeShareGroupStateRequestRow, standIns := [], harness := (true, "4665a474083eee65519b98164d97f605d3d93e4f6e3bc25d67bfab7532d006c2"), looks := false }, kinds := [], alts := [], laidByText := true, laidKinds := [.sentinel], laidTests := true, laidLooks := .later }
def FnFrameInitializeShareGroupStateRequestCardSaid : Prop := Claim7.holds Tryz.pinned (.plain (OpenSpec.ofChange fnFrameInitializeShareGroupStateRequestSpec)) fnFrameInitializeShareGroupStateRequestCard

/-- THE SECOND FORM's CARD OF 'laws.FnFrameOffsetCommitRequest'. -/
def fnFrameOffsetCommitRequestUptoCard : Claim7 := { stood := { row := fnFrameOffsetCommitRequestUptoRow, standIns := [], harness := (true, "4665a474083eee65519b98164d97f605d3d93e4f6e3bc25d67bfab7532d006c2"), looks := false }, kinds := [], alts := [], laidByText := true, laidKinds := [.sentinel], laidTests := true, laidLooks := .later }
def FnFrameOffsetCommitRequestUptoCardSaid : Prop := Claim7.holds Tryz.pinned (.plain (OpenSpec.upto fnFrameOffsetCommitRequestSpec)) fnFrameOffsetCommitRequestUptoCard

/-- THE SECOND FORM's CARD OF 'laws.FnFrameTxnOffsetCommitRequest'. -/
def fnFrameTxnOffsetCommitRequestUptoCard : Claim7 := { stood := { row := fnFrameTxnOffsetCommitRequestUptoRow, standIns := [], harness := (true, "4665a474083eee65519b98164d97f605d3d93e4f6e3bc25d67bfab7532d006c2"), looks := false }, kinds := [], alts := [], laidByText := true, laidKinds := [.sentinel], laidTests := true, laidLooks := .later }
def FnFrameTxnOffsetCommitRequestUptoCardSaid : Prop := Claim7.holds Tryz.pinned (.plain (OpenSpec.upto fnFrameTxnOffsetCommitRequestSpec)) fnFrameTxnOffsetCommitRequestUptoCard

/-- THE SECOND FORM's CARD OF 'laws.FnFrameDescribeDelegationTokenRequest'. -/
def fnFrameDescribeDelegationTokenRequestUptoCard : Claim7 := { stood := { row := fnFrameDescribeDelegationTokenRequestUptoRow, standIns := [], harness := (true, "4665a474083eee65519b98164d97f605d3d93e4f6e3bc25d67bfab7532d006c2"), looks := false }, kinds := [], alts := [], laidByText := true, laidKinds := [.sentinel], laidTests := true, laidLooks := .later }
def FnFrameDescribeDelegationTokenRequestUptoCardSaid : Prop := Claim7.holds Tryz.pinned (.plain (OpenSpec.upto fnFrameDescribeDelegationTokenRequestSpec)) fnFrameDescribeDelegationTokenRequestUptoCard

/-- THE SECOND FORM's CARD OF 'laws.FnFrameUpdateFeaturesRequest'. -/
def fnFrameUpdateFeaturesRequestUptoCard : Claim7 := { stood := { row := fnFrameUpdateFeaturesRequestUptoRow, standIns := [], harness := (true, "4665a474083eee65519b98164d97f605d3d93e4f6e3bc25d67bfab7532d006c2"), looks := false }, kinds := [], alts := [], laidByText := true, laidKinds := [.sentinel], laidTests := true, laidLooks := .later }
def FnFrameUpdateFeaturesRequestUptoCardSaid : Prop := Claim7.holds Tryz.pinned (.plain (OpenSpec.upto fnFrameUpdateFeaturesRequestSpec)) fnFrameUpdateFeaturesRequestUptoCard

/-- THE SECOND FORM's CARD OF 'laws.FnFrameReadShareGroupStateRequest'. -/
def fnFrameReadShareGroupStateRequestUptoCard : Claim7 := { stood := { row := fnFrameReadShareGroupStateRequestUptoRow, standIns := [], harness := (true, "4665a474083eee65519b98164d97f605d3d93e4f6e3bc25d67bfab7532d006c2"), looks := false }, kinds := [], alts := [], laidByText := true, laidKinds := [.sentinel], laidTests := true, laidLooks := .later }
def FnFrameReadShareGroupStateRequestUptoCardSaid : Prop := Claim7.holds Tryz.pinned (.plain (OpenSpec.upto fnFrameReadShareGroupStateRequestSpec)) fnFrameReadShareGroupStateRequestUptoCard

/-- THE SECOND FORM's CARD OF 'laws.FnFrameOffsetForLeaderEpochRequest'. -/
def fnFrameOffsetForLeaderEpochRequestUptoCard : Claim7 := { stood := { row := fnFrameOffsetForLeaderEpochRequestUptoRow, standIns := [], harness := (true, "4665a474083eee65519b98164d97f605d3d93e4f6e3bc25d67bfab7532d006c2"), looks := false }, kinds := [], alts := [], laidByText := true, laidKinds := [.sentinel], laidTests := true, laidLooks := .later }
def FnFrameOffsetForLeaderEpochRequestUptoCardSaid : Prop := Claim7.holds Tryz.pinned (.plain (OpenSpec.upto fnFrameOffsetForLeaderEpochRequestSpec)) fnFrameOffsetForLeaderEpochRequestUptoCard

/-- THE SECOND FORM's CARD OF 'laws.FnFrameInitializeShareGroupStateRequest'. -/
def fnFrameInitializeShareGroupStateRequestUptoCard : Claim7 := { stood := { row := fnFrameInitializeShareGroupStateRequestUptoRow, standIns := [], harness := (true, "4665a474083eee65519b98164d97f605d3d93e4f6e3bc25d67bfab7532d006c2"), looks := false }, kinds := [], alts := [], laidByText := true, laidKinds := [.sentinel], laidTests := true, laidLooks := .later }
def FnFrameInitializeShareGroupStateRequestUptoCardSaid : Prop := Claim7.holds Tryz.pinned (.plain (OpenSpec.upto fnFrameInitializeShareGroupStateRequestSpec)) fnFrameInitializeShareGroupStateRequestUptoCard
end Rows
end Go.Proofs.YtogokkkdfcgncaaGreatDoor
