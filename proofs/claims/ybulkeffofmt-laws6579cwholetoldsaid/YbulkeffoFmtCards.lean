/-
  DERIVED. GIVEN WITH THE SEED: THE CARDS: each row of YbulkeffoFmtRows.lean that lists a variable, with what it lists TIED to the program's text (the seventh form; the later family's looks); each row that meets fmt, with fmt's text TOLD by the authors' own Lean function (tested against real Go, not proved from fmt's source: count such statements apart). THE CARD IS WHAT COUNTS. Prove the row's statement (the work); the ties are given (YbulkeffoFmtTie.lean); close each card by the builder's one call (the guide's Derived/Test/ToyasCard.lean, 'card_holds'). Laid BY PROGRAM, IN A SANDBOX (cutbox-door.mjs). By AI agents, Wed Nov 11 2026. No macro, syntax, notation, axiom, sorry.
-/
import Derived.Test.YbulkeffoFmtRows
import GoSem.ClaimSeven
namespace Go.Proofs.YbulkeffoFmt
namespace Rows

/-- THE TOLD CARD OF 'ledgerline.LawS6579CWhole'. -/
def lawS6579CWholeCard : Claim7 := { stood := { row := lawS6579CWholeRow, standIns := [], harness := (true, "cdb296611cce54160c276ef7cef9dcabd2dc3f709372efe94c4ed1e9ec76f097"), looks := false }, told := true, goes := false }
def LawS6579CWholeToldSaid : Prop := Claim7.holds Ybaf.pinned (.plain (OpenSpec.ofChange lawS6579CWholeSpec)) lawS6579CWholeCard
/-- ITS FALSE NEIGHBOUR. Refute it at one input. -/
def LawS6579CWholeToldWrongFalsely : Prop := Claim7.holds Ybaf.pinned (.plain (OpenSpec.ofChange lawS6579CWholeWrong)) lawS6579CWholeCard
end Rows
end Go.Proofs.YbulkeffoFmt
