/- FnMakeEndTxnMarker: the plain law. Own work. -/
import Derived.Test.YtlkiilgbpliakaaLd
namespace Go.Proofs.Ytlkiilgbpliakaa.ME
open Go
set_option linter.unusedVariables false
set_option linter.unusedSimpArgs false

theorem be4_i32 (x : Int) : be 4 (IntKind.i32.wrap x) = be 4 x := by
  rw [IntKind.wrap_i32]
  simp only [be, List.cons.injEq, and_true]
  refine ⟨by8_congr ?_, by8_congr ?_, by8_congr ?_, by8_congr ?_⟩ <;> simp only [Int.reducePow] <;> omega
theorem pureEndTxnMarker (x : Int) (t : Tree) : makeEndTxnMarker (Int.tmod x 1) (fitT (Int.tmod x 1) 8 sEndTxnMarkerF t) = keptB 8 sEndTxnMarkerF sEndTxnMarkerX (Int.tmod x 1) t := by
  rw [Int.tmod_one]
  have h1 : ((fitT 0 8 sEndTxnMarkerF t).at_ 0).N = (t.at_ 0).N := by
    have e : (fitT 0 8 sEndTxnMarkerF t).at_ 0 = fittedW (fitT 0 7) 0 (Fld.mk 3 0 (-1) (-1) (-1) 0 0 []) (t.at_ 0) := rfl
    rw [e]
    generalize t.at_ 0 = y
    cases y
    simp [fittedW, fitted0, Fld.kind, Tree.N]
  have h2 : IntKind.i16.wrap 0 = 0 := by decide
  rw [makeEndTxnMarker, h1, be4_i32, h2]
  simp [keptB, writeB, sEndTxnMarkerX, partB, partW, bodyB, sEndTxnMarkerF, Fld.tag, Fld.has, fieldB, Fld.kind, Fld.null, valueB, widthI]

end Go.Proofs.Ytlkiilgbpliakaa.ME
