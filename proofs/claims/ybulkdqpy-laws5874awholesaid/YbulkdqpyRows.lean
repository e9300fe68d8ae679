/-
  No cell of these rows narrows 'for every input' (looked for: loops, veiled, ifaces, maps, wideKeys, modest, calm, conditions, laid).
  DERIVED. THE GIVEN ROWS OF THIS SEAT. 1 by the template 'for every input the law returns true; each argument reads behind the call as it read before'; 0 by the template 'total and deterministic' (their statements: YbulkdqpyTotals.lean).
  GIVEN WITH THE SEED: the statements are not yours to turn. If you find one false, say at which input.
  Laid BY PROGRAM, IN A SANDBOX (cutbox-rows.mjs): the forced cells as the released guide's own fill.sh prints them over the translation b08fd78e59bf92f4… (all of the seat's roots in one cut). By AI agents, Wed Nov 11 2026. No macro, syntax, notation, axiom, sorry.
-/
import Derived.Test.YbulkdqpyChecked
import GoSem.Claim
import GoSem.ClaimJoined
import GoSem.ClaimMapViews
import Derived.JoinedTies
import Derived.KernelRfl
namespace Go.Proofs.Ybulkdqpy
/- THE CELL 'sum', in the pinned program and in every row, IS THE sha256 OF THE DUMP (.gsa) THAT YbulkdqpyProg.lean LOADS. Nothing in Lean hashes anything: it is a label: what it is worth is what the hold of that sum in a sandbox is worth. -/
noncomputable def Yba.pinned : Pinned := { name := "ybulkdqpy", sum := "b08fd78e59bf92f410dfd31f9219adf370ff8612cc16531229a236d78948814e", checked := Yba.checked }
namespace Rows
def none {H : Type} : Left H := { results := [], args := [] }

/-- 'metrics.LawS5874AWhole': WHATEVER THE INPUT: true; the input reads as it did. -/
def lawS5874AWholeSpec : ChangeSpec := { name := "lawS5874AWhole", fn := fun _ => fun
  | [d1, d2, d3] => { results := [.lit (.bool true)], args := [d1, d2, d3] }
  | _ => none }
def lawS5874AWholeRow : OpenClaim := { program := "ybulkdqpy", sum := "b08fd78e59bf92f410dfd31f9219adf370ff8612cc16531229a236d78948814e", func := "example.com/firmline/firmline/metrics.LawS5874AWhole", spec := "lawS5874AWhole", inPlace := ["math.Float64bits"], apart := false }
def LawS5874AWholeSaid : Prop := lawS5874AWholeRow.holds Yba.pinned (OpenSpec.ofChange lawS5874AWholeSpec)

/-- ITS FALSE NEIGHBOUR: 'it returns false'. Refute it at one input. -/
def lawS5874AWholeWrong : ChangeSpec := { name := "lawS5874AWhole", fn := fun _ => fun
  | [d1, d2, d3] => { results := [.lit (.bool false)], args := [d1, d2, d3] }
  | _ => none }
def LawS5874AWholeWrongFalsely : Prop := lawS5874AWholeRow.holds Yba.pinned (OpenSpec.ofChange lawS5874AWholeWrong)

end Rows
end Go.Proofs.Ybulkdqpy
