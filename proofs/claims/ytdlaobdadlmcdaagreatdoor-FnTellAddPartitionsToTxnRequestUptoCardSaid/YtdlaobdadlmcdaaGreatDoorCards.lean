/-
  DERIVED. GIVEN WITH THE SEED: THE CARDS: each row of YtdlaobdadlmcdaaGreatDoorRows.lean that lists a variable, with what it lists TIED to the program's text (the seventh form; the later family's looks); each row that meets fmt, with fmt's text TOLD by the authors' own Lean function (tested against real Go, not proved from fmt's source: count such statements apart). THE CARD IS WHAT COUNTS. Prove the row's statement (the work); the ties are given (YtdlaobdadlmcdaaGreatDoorTie.lean); close each card by the builder's one call (the guide's Derived/Test/ToyasCard.lean, 'card_holds'). Laid BY PROGRAM, IN A SANDBOX (cutbox-door.mjs). By AI agents, Wed Nov 11 2026. No macro, syntax, notation, axiom, sorry.
-/
import Derived.Test.YtdlaobdadlmcdaaGreatDoorRows
import GoSem.ClaimSeven
namespace Go.Proofs.YtdlaobdadlmcdaaGreatDoor
namespace Rows

/-- THE TIED CARD OF 'laws.FnTellAddPartitionsToTxnRequest'. -/
def fnTellAddPartitionsToTxnRequestCard : Claim7 := { stood := { row := fnTellAddPartitionsToTxnRequestRow, standIns := [], harness := (true, "4ef9e737393375219c5ab43b967091ac8c52bb71e6332716e2204727fec52905"), looks := false }, kinds := [], alts := [], laidByText := true, laidKinds := [.sentinel], laidTests := true, laidLooks := .later }
def FnTellAddPartitionsToTxnRequestCardSaid : Prop := Claim7.holds Tryz.pinned (.plain (OpenSpec.ofChange fnTellAddPartitionsToTxnRequestSpec)) fnTellAddPartitionsToTxnRequestCard

/-- THE TIED CARD OF 'laws.FnTellShareAcknowledgeResponse'. -/
def fnTellShareAcknowledgeResponseCard : Claim7 := { stood := { row := fnTellShareAcknowledgeResponseRow, standIns := [], harness := (true, "4ef9e737393375219c5ab43b967091ac8c52bb71e6332716e2204727fec52905"), looks := false }, kinds := [], alts := [], laidByText := true, laidKinds := [.sentinel], laidTests := true, laidLooks := .later }
def FnTellShareAcknowledgeResponseCardSaid : Prop := Claim7.holds Tryz.pinned (.plain (OpenSpec.ofChange fnTellShareAcknowledgeResponseSpec)) fnTellShareAcknowledgeResponseCard

/-- THE TIED CARD OF 'laws.FnTellFetchRequest'. -/
def fnTellFetchRequestCard : Claim7 := { stood := { row := fnTellFetchRequestRow, standIns := [], harness := (true, "4ef9e737393375219c5ab43b967091ac8c52bb71e6332716e2204727fec52905"), looks := false }, kinds := [], alts := [], laidByText := true, laidKinds := [.sentinel], laidTests := true, laidLooks := .later }
def FnTellFetchRequestCardSaid : Prop := Claim7.holds Tryz.pinned (.plain (OpenSpec.ofChange fnTellFetchRequestSpec)) fnTellFetchRequestCard

/-- THE SECOND FORM's CARD OF 'laws.FnTellAddPartitionsToTxnRequest'. -/
def fnTellAddPartitionsToTxnRequestUptoCard : Claim7 := { stood := { row := fnTellAddPartitionsToTxnRequestUptoRow, standIns := [], harness := (true, "4ef9e737393375219c5ab43b967091ac8c52bb71e6332716e2204727fec52905"), looks := false }, kinds := [], alts := [], laidByText := true, laidKinds := [.sentinel], laidTests := true, laidLooks := .later }
def FnTellAddPartitionsToTxnRequestUptoCardSaid : Prop := Claim7.holds Tryz.pinned (.plain (OpenSpec.upto fnTellAddPartitionsToTxnRequestSpec)) fnTellAddPartitionsToTxnRequestUptoCard

/-- THE SECOND FORM's CARD OF 'laws.FnTellShareAcknowledgeResponse'. -/
def fnTellShareAcknowledgeResponseUptoCard : Claim7 := { stood := { row := fnTellShareAcknowledgeResponseUptoRow, standIns := [], harness := (true, "4ef9e737393375219c5ab43b967091ac8c52bb71e6332716e2204727fec52905"), looks := false }, kinds := [], alts := [], laidByText := true, laidKinds := [.sentinel], laidTests := true, laidLooks := .later }
def FnTellShareAcknowledgeResponseUptoCardSaid : Prop := Claim7.holds Tryz.pinned (.plain (OpenSpec.upto fnTellShareAcknowledgeResponseSpec)) fnTellShareAcknowledgeResponseUptoCard

/-- THE SECOND FORM's CARD OF 'laws.FnTellFetchRequest'. -/
def fnTellFetchRequestUptoCard : Claim7 := { stood := { row := fnTellFetchRequestUptoRow, standIns := [], harness := (true, "4ef9e737393375219c5ab43b967091ac8c52bb71e6332716e2204727fec52905"), looks := false }, kinds := [], alts := [], laidByText := true, laidKinds := [.sentinel], laidTests := true, laidLooks := .later }
def FnTellFetchRequestUptoCardSaid : Prop := Claim7.holds Tryz.pinned (.plain (OpenSpec.upto fnTellFetchRequestSpec)) fnTellFetchRequestUptoCard
end Rows
end Go.Proofs.YtdlaobdadlmcdaaGreatDoor
