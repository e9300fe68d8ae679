/-
  DERIVED. GIVEN WITH THE SEED: THE CARDS: each row of YbulkdqpyFmtRows.lean that lists a variable, with what it lists TIED to the program's text (the seventh form; the later family's looks); each row that meets fmt, with fmt's text TOLD by the authors' own Lean function (tested against real Go, not proved from fmt's source: count such statements apart). THE CARD IS WHAT COUNTS. Prove the row's statement (the work); the ties are given (YbulkdqpyFmtTie.lean); close each card by the builder's one call (the guide's Derived/Test/ToyasCard.lean, 'card_holds'). Laid BY PROGRAM, IN A SANDBOX (cutbox-door.mjs). By AI agents, Wed Nov 11 2026. No macro, syntax, notation, axiom, sorry.
-/
import Derived.Test.YbulkdqpyFmtRows
import GoSem.ClaimSeven
namespace Go.Proofs.YbulkdqpyFmt
namespace Rows

/-- THE TOLD CARD OF 'metrics.LawS5874AObserved'. -/
def lawS5874AObservedCard : Claim7 := { stood := { row := lawS5874AObservedRow, standIns := [], harness := (true, "c7cf5d4d9b561b7eac64601aff1c43f2972bfb18f0779e1d30b52b697b25cecd"), looks := true }, told := true, goes := false }
def LawS5874AObservedToldSaid : Prop := Claim7.holds Ybaf.pinned (.plain (OpenSpec.ofChange lawS5874AObservedSpec)) lawS5874AObservedCard
/-- ITS FALSE NEIGHBOUR. Refute it at one input. -/
def LawS5874AObservedToldWrongFalsely : Prop := Claim7.holds Ybaf.pinned (.plain (OpenSpec.ofChange lawS5874AObservedWrong)) lawS5874AObservedCard

/-- THE TOLD CARD OF 'lean.LawS5874BWhole'. -/
def lawS5874BWholeCard : Claim7 := { stood := { row := lawS5874BWholeRow, standIns := [], harness := (true, "c7cf5d4d9b561b7eac64601aff1c43f2972bfb18f0779e1d30b52b697b25cecd"), looks := true }, told := true, goes := false }
def LawS5874BWholeToldSaid : Prop := Claim7.holds Ybaf.pinned (.plain (OpenSpec.ofChange lawS5874BWholeSpec)) lawS5874BWholeCard
/-- ITS FALSE NEIGHBOUR. Refute it at one input. -/
def LawS5874BWholeToldWrongFalsely : Prop := Claim7.holds Ybaf.pinned (.plain (OpenSpec.ofChange lawS5874BWholeWrong)) lawS5874BWholeCard

/-- THE TOLD AND TIED CARD OF 'lean.LawS5874CWhole'. -/
def lawS5874CWholeCard : Claim7 := { stood := { row := lawS5874CWholeRow, standIns := [], harness := (true, "c7cf5d4d9b561b7eac64601aff1c43f2972bfb18f0779e1d30b52b697b25cecd"), looks := true }, told := true, laidByText := true, laidKinds := [.handle], laidTests := true, laidLooks := .later, goes := false }
def LawS5874CWholeToldSaid : Prop := Claim7.holds Ybaf.pinned (.plain (OpenSpec.ofChange lawS5874CWholeSpec)) lawS5874CWholeCard
/-- ITS FALSE NEIGHBOUR. Refute it at one input. -/
def LawS5874CWholeToldWrongFalsely : Prop := Claim7.holds Ybaf.pinned (.plain (OpenSpec.ofChange lawS5874CWholeWrong)) lawS5874CWholeCard
end Rows
end Go.Proofs.YbulkdqpyFmt
