/-
  DERIVED. GIVEN WITH THE SEED: THE CARDS: each row of YbulkdqscFmtRows.lean that lists a variable, with what it lists TIED to the program's text (the seventh form; the later family's looks); each row that meets fmt, with fmt's text TOLD by the authors' own Lean function (tested against real Go, not proved from fmt's source: count such statements apart). THE CARD IS WHAT COUNTS. Prove the row's statement (the work); the ties are given (YbulkdqscFmtTie.lean); close each card by the builder's one call (the guide's Derived/Test/ToyasCard.lean, 'card_holds'). Laid BY PROGRAM, IN A SANDBOX (cutbox-door.mjs). By AI agents, Wed Nov 11 2026. No macro, syntax, notation, axiom, sorry.
-/
import Derived.Test.YbulkdqscFmtRows
import GoSem.ClaimSeven
namespace Go.Proofs.YbulkdqscFmt
namespace Rows

/-- THE TOLD CARD OF 'cli.LawS5878CWhole'. -/
def lawS5878CWholeCard : Claim7 := { stood := { row := lawS5878CWholeRow, standIns := [], harness := (true, "d66d9c27c4ad38a3cdb51fe4ef808acbd6658fcb1a96f072afd4d0da7bd0abf8"), looks := false }, told := true, goes := false }
def LawS5878CWholeToldSaid : Prop := Claim7.holds Ybaf.pinned (.plain (OpenSpec.ofChange lawS5878CWholeSpec)) lawS5878CWholeCard
/-- ITS FALSE NEIGHBOUR. Refute it at one input. -/
def LawS5878CWholeToldWrongFalsely : Prop := Claim7.holds Ybaf.pinned (.plain (OpenSpec.ofChange lawS5878CWholeWrong)) lawS5878CWholeCard
end Rows
end Go.Proofs.YbulkdqscFmt
