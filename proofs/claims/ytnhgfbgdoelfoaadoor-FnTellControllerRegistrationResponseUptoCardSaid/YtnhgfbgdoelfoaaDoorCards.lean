/-
  DERIVED. GIVEN WITH THE SEED: THE CARDS: each row of YtnhgfbgdoelfoaaDoorRows.lean that lists a variable, with what it lists TIED to the program's text (the seventh form; the later family's looks); each row that meets fmt, with fmt's text TOLD by the authors' own Lean function (tested against real Go, not proved from fmt's source: count such statements apart). THE CARD IS WHAT COUNTS. Prove the row's statement (the work); the ties are given (YtnhgfbgdoelfoaaDoorTie.lean); close each card by the builder's one call (the guide's Derived/Test/ToyasCard.lean, 'card_holds'). Laid BY PROGRAM, IN A SANDBOX (cutbox-door.mjs). By AI agents, Wed Nov 11 2026. No macro, syntax, notation, axiom, sorry.
-/
import Derived.Test.YtnhgfbgdoelfoaaDoorRows
import GoSem.ClaimSeven
namespace Go.Proofs.YtnhgfbgdoelfoaaDoor
namespace Rows

/-- THE TIED CARD OF 'laws.FnBehindUpdateMetadataResponse'. -/
def fnBehindUpdateMetadataResponseCard : Claim7 := { stood := { row := fnBehindUpdateMetadataResponseRow, standIns := [], harness := (true, "ae4c99087b4bf1f9da7c85090f98d040ed1a9b89c02361eddb74a58bafa03c50"), looks := false }, kinds := [], alts := [], laidByText := true, laidKinds := [.sentinel], laidTests := true, laidLooks := .later }
def FnBehindUpdateMetadataResponseCardSaid : Prop := Claim7.holds Tryd.pinned (.plain (OpenSpec.ofChange fnBehindUpdateMetadataResponseSpec)) fnBehindUpdateMetadataResponseCard

/-- THE TIED CARD OF 'laws.FnTellSASLHandshakeRequest'. -/
def fnTellSASLHandshakeRequestCard : Claim7 := { stood := { row := fnTellSASLHandshakeRequestRow, standIns := [], harness := (true, "ae4c99087b4bf1f9da7c85090f98d040ed1a9b89c02361eddb74a58bafa03c50"), looks := false }, kinds := [], alts := [], laidByText := true, laidKinds := [.sentinel], laidTests := true, laidLooks := .later }
def FnTellSASLHandshakeRequestCardSaid : Prop := Claim7.holds Tryd.pinned (.plain (OpenSpec.ofChange fnTellSASLHandshakeRequestSpec)) fnTellSASLHandshakeRequestCard

/-- THE TIED CARD OF 'laws.FnTellConnectMemberMetadata'. -/
def fnTellConnectMemberMetadataCard : Claim7 := { stood := { row := fnTellConnectMemberMetadataRow, standIns := [], harness := (true, "ae4c99087b4bf1f9da7c85090f98d040ed1a9b89c02361eddb74a58bafa03c50"), looks := false }, kinds := [], alts := [], laidByText := true, laidKinds := [.sentinel], laidTests := true, laidLooks := .later }
def FnTellConnectMemberMetadataCardSaid : Prop := Claim7.holds Tryd.pinned (.plain (OpenSpec.ofChange fnTellConnectMemberMetadataSpec)) fnTellConnectMemberMetadataCard

/-- THE TIED CARD OF 'laws.FnTellControllerRegistrationResponse'. -/
def fnTellControllerRegistrationResponseCard : Claim7 := { stood := { row := fnTellControllerRegistrationResponseRow, standIns := [], harness := (true, "ae4c99087b4bf1f9da7c85090f98d040ed1a9b89c02361eddb74a58bafa03c50"), looks := false }, kinds := [], alts := [], laidByText := true, laidKinds := [.sentinel], laidTests := true, laidLooks := .later }
def FnTellControllerRegistrationResponseCardSaid : Prop := Claim7.holds Tryd.pinned (.plain (OpenSpec.ofChange fnTellControllerRegistrationResponseSpec)) fnTellControllerRegistrationResponseCard

/-- THE TIED CARD OF 'laws.FnTellEndTxnRequest'. -/
def fnTellEndTxnRequestCard : Claim7 := { stood := { row := fnTellEndTxnRequestRow, standIns := [], harness := (true, "ae4c99087b4bf1f9da7c85090f98d040ed1a9b89c02361eddb74a58bafa03c50"), looks := false }, kinds := [], alts := [], laidByText := true, laidKinds := [.sentinel], laidTests := true, laidLooks := .later }
def FnTellEndTxnRequestCardSaid : Prop := Claim7.holds Tryd.pinned (.plain (OpenSpec.ofChange fnTellEndTxnRequestSpec)) fnTellEndTxnRequestCard

/-- THE SECOND FORM's CARD OF 'laws.FnBehindUpdateMetadataResponse'. -/
def fnBehindUpdateMetadataResponseUptoCard : Claim7 := { stood := { row := fnBehindUpdateMetadataResponseUptoRow, standIns := [], harness := (true, "ae4c99087b4bf1f9da7c85090f98d040ed1a9b89c02361eddb74a58bafa03c50"), looks := false }, kinds := [], alts := [], laidByText := true, laidKinds := [.sentinel], laidTests := true, laidLooks := .later }
def FnBehindUpdateMetadataResponseUptoCardSaid : Prop := Claim7.holds Tryd.pinned (.plain (OpenSpec.upto fnBehindUpdateMetadataResponseSpec)) fnBehindUpdateMetadataResponseUptoCard

/-- THE SECOND FORM's CARD OF 'laws.FnTellSASLHandshakeRequest'. -/
def fnTellSASLHandshakeRequestUptoCard : Claim7 := { stood := { row := fnTellSASLHandshakeRequestUptoRow, standIns := [], harness := (true, "ae4c99087b4bf1f9da7c85090f98d040ed1a9b89c02361eddb74a58bafa03c50"), looks := false }, kinds := [], alts := [], laidByText := true, laidKinds := [.sentinel], laidTests := true, laidLooks := .later }
def FnTellSASLHandshakeRequestUptoCardSaid : Prop := Claim7.holds Tryd.pinned (.plain (OpenSpec.upto fnTellSASLHandshakeRequestSpec)) fnTellSASLHandshakeRequestUptoCard

/-- THE SECOND FORM's CARD OF 'laws.FnTellConnectMemberMetadata'. -/
def fnTellConnectMemberMetadataUptoCard : Claim7 := { stood := { row := fnTellConnectMemberMetadataUptoRow, standIns := [], harness := (true, "ae4c99087b4bf1f9da7c85090f98d040ed1a9b89c02361eddb74a58bafa03c50"), looks := false }, kinds := [], alts := [], laidByText := true, laidKinds := [.sentinel], laidTests := true, laidLooks := .later }
def FnTellConnectMemberMetadataUptoCardSaid : Prop := Claim7.holds Tryd.pinned (.plain (OpenSpec.upto fnTellConnectMemberMetadataSpec)) fnTellConnectMemberMetadataUptoCard

/-- THE SECOND FORM's CARD OF 'laws.FnTellControllerRegistrationResponse'. -/
def fnTellControllerRegistrationResponseUptoCard : Claim7 := { stood := { row := fnTellControllerRegistrationResponseUptoRow, standIns := [], harness := (true, "ae4c99087b4bf1f9da7c85090f98d040ed1a9b89c02361eddb74a58bafa03c50"), looks := false }, kinds := [], alts := [], laidByText := true, laidKinds := [.sentinel], laidTests := true, laidLooks := .later }
def FnTellControllerRegistrationResponseUptoCardSaid : Prop := Claim7.holds Tryd.pinned (.plain (OpenSpec.upto fnTellControllerRegistrationResponseSpec)) fnTellControllerRegistrationResponseUptoCard

/-- THE SECOND FORM's CARD OF 'laws.FnTellEndTxnRequest'. -/
def fnTellEndTxnRequestUptoCard : Claim7 := { stood := { row := fnTellEndTxnRequestUptoRow, standIns := [], harness := (true, "ae4c99087b4bf1f9da7c85090f98d040ed1a9b89c02361eddb74a58bafa03c50"), looks := false }, kinds := [], alts := [], laidByText := true, laidKinds := [.sentinel], laidTests := true, laidLooks := .later }
def FnTellEndTxnRequestUptoCardSaid : Prop := Claim7.holds Tryd.pinned (.plain (OpenSpec.upto fnTellEndTxnRequestSpec)) fnTellEndTxnRequestUptoCard
end Rows
end Go.Proofs.YtnhgfbgdoelfoaaDoor
