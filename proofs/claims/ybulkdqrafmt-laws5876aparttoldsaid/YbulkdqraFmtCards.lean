/-
  DERIVED. GIVEN WITH THE SEED: THE CARDS: each row of YbulkdqraFmtRows.lean that lists a variable, with what it lists TIED to the program's text (the seventh form; the later family's looks); each row that meets fmt, with fmt's text TOLD by the authors' own Lean function (tested against real Go, not proved from fmt's source: count such statements apart). THE CARD IS WHAT COUNTS. Prove the row's statement (the work); the ties are given (YbulkdqraFmtTie.lean); close each card by the builder's one call (the guide's Derived/Test/ToyasCard.lean, 'card_holds'). Laid BY PROGRAM, IN A SANDBOX (cutbox-door.mjs). By AI agents, Wed Nov 11 2026. No macro, syntax, notation, axiom, sorry.
-/
import Derived.Test.YbulkdqraFmtRows
import GoSem.ClaimSeven
namespace Go.Proofs.YbulkdqraFmt
namespace Rows

/-- THE TOLD CARD OF 'roles.LawS5876APart'. -/
def lawS5876APartCard : Claim7 := { stood := { row := lawS5876APartRow, standIns := [], harness := (true, "dc6d3289374f3f5807143e3111406cbb3cec6d3886a7f3297ff539785d6d954a"), looks := false }, told := true, goes := false }
def LawS5876APartToldSaid : Prop := Claim7.holds Ybaf.pinned (.plain (OpenSpec.ofChange lawS5876APartSpec)) lawS5876APartCard
/-- ITS FALSE NEIGHBOUR. Refute it at one input. -/
def LawS5876APartToldWrongFalsely : Prop := Claim7.holds Ybaf.pinned (.plain (OpenSpec.ofChange lawS5876APartWrong)) lawS5876APartCard
end Rows
end Go.Proofs.YbulkdqraFmt
