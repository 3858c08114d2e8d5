/-
  DERIVED. GIVEN WITH THE SEED: THE CARDS: each row of YtmpejmiiphddhaaDoorRRows.lean that lists a variable, with what it lists TIED to the program's text (the seventh form; the later family's looks); each row that meets fmt, with fmt's text TOLD by the authors' own Lean function (tested against real Go, not proved from fmt's source: count such statements apart). THE CARD IS WHAT COUNTS. Prove the row's statement (the work); the ties are given (YtmpejmiiphddhaaDoorRTie.lean); close each card by the builder's one call (the guide's Derived/Test/ToyasCard.lean, 'card_holds'). Laid BY PROGRAM, IN A SANDBOX (cutbox-door.mjs). By AI agents, Wed Nov 11 2026. No macro, syntax, notation, axiom, sorry.
-/
import Derived.Test.YtmpejmiiphddhaaDoorRRows
import GoSem.ClaimSeven
namespace Go.Proofs.YtmpejmiiphddhaaDoorR
namespace Rows

/-- THE TIED CARD OF 'laws.FnUnsafeCreateDelegationTokenRequest'. -/
def fnUnsafeCreateDelegationTokenRequestCard : Claim7 := { stood := { row := fnUnsafeCreateDelegationTokenRequestRow, standIns := [], harness := (true, "b96bce18bd979627c5c5b6c498e0feee20aff44f7db5fe66ce6184182b79b08b"), looks := false }, kinds := [], alts := [], laidByText := true, laidKinds := [.sentinel], laidTests := true, laidLooks := .later }
def FnUnsafeCreateDelegationTokenRequestCardSaid : Prop := Claim7.holds Tryd.pinned (.plain (OpenSpec.ofChange fnUnsafeCreateDelegationTokenRequestSpec)) fnUnsafeCreateDelegationTokenRequestCard

/-- THE TIED CARD OF 'laws.FnUnsafeControlledShutdownRequest'. -/
def fnUnsafeControlledShutdownRequestCard : Claim7 := { stood := { row := fnUnsafeControlledShutdownRequestRow, standIns := [], harness := (true, "b96bce18bd979627c5c5b6c498e0feee20aff44f7db5fe66ce6184182b79b08b"), looks := false }, kinds := [], alts := [], laidByText := true, laidKinds := [.sentinel], laidTests := true, laidLooks := .later }
def FnUnsafeControlledShutdownRequestCardSaid : Prop := Claim7.holds Tryd.pinned (.plain (OpenSpec.ofChange fnUnsafeControlledShutdownRequestSpec)) fnUnsafeControlledShutdownRequestCard

/-- THE SECOND FORM's CARD OF 'laws.FnUnsafeCreateDelegationTokenRequest'. -/
def fnUnsafeCreateDelegationTokenRequestUptoCard : Claim7 := { stood := { row := fnUnsafeCreateDelegationTokenRequestUptoRow, standIns := [], harness := (true, "b96bce18bd979627c5c5b6c498e0feee20aff44f7db5fe66ce6184182b79b08b"), looks := false }, kinds := [], alts := [], laidByText := true, laidKinds := [.sentinel], laidTests := true, laidLooks := .later }
def FnUnsafeCreateDelegationTokenRequestUptoCardSaid : Prop := Claim7.holds Tryd.pinned (.plain (OpenSpec.upto fnUnsafeCreateDelegationTokenRequestSpec)) fnUnsafeCreateDelegationTokenRequestUptoCard

/-- THE SECOND FORM's CARD OF 'laws.FnUnsafeControlledShutdownRequest'. -/
def fnUnsafeControlledShutdownRequestUptoCard : Claim7 := { stood := { row := fnUnsafeControlledShutdownRequestUptoRow, standIns := [], harness := (true, "b96bce18bd979627c5c5b6c498e0feee20aff44f7db5fe66ce6184182b79b08b"), looks := false }, kinds := [], alts := [], laidByText := true, laidKinds := [.sentinel], laidTests := true, laidLooks := .later }
def FnUnsafeControlledShutdownRequestUptoCardSaid : Prop := Claim7.holds Tryd.pinned (.plain (OpenSpec.upto fnUnsafeControlledShutdownRequestSpec)) fnUnsafeControlledShutdownRequestUptoCard
end Rows
end Go.Proofs.YtmpejmiiphddhaaDoorR
