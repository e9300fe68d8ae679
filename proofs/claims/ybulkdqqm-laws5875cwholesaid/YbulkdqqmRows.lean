/-
  No cell of these rows narrows 'for every input' (looked for: loops, veiled, ifaces, maps, wideKeys, modest, calm, conditions, laid).
  DERIVED. THE GIVEN ROWS OF THIS SEAT. 1 by the template 'for every input the law returns true; each argument reads behind the call as it read before'; 0 by the template 'total and deterministic' (their statements: YbulkdqqmTotals.lean).
  GIVEN WITH THE SEED: the statements are not yours to turn. If you find one false, say at which input.
  Laid BY PROGRAM, IN A SANDBOX (cutbox-rows.mjs): the forced cells as the released guide's own fill.sh prints them over the translation 5613b5b42e0ea51c… (all of the seat's roots in one cut). By AI agents, Wed Nov 11 2026. No macro, syntax, notation, axiom, sorry.
-/
import Derived.Test.YbulkdqqmChecked
import GoSem.Claim
import GoSem.ClaimJoined
import GoSem.ClaimMapViews
import Derived.JoinedTies
import Derived.KernelRfl
namespace Go.Proofs.Ybulkdqqm
/- THE CELL 'sum', in the pinned program and in every row, IS THE sha256 OF THE DUMP (.gsa) THAT YbulkdqqmProg.lean LOADS. Nothing in Lean hashes anything: it is a label: what it is worth is what the hold of that sum in a sandbox is worth. -/
noncomputable def Yba.pinned : Pinned := { name := "ybulkdqqm", sum := "5613b5b42e0ea51ce9b3af9d6925944d8bcca7f4d0617f6ba37029052fd8b318", checked := Yba.checked }
namespace Rows
def none {H : Type} : Left H := { results := [], args := [] }

/-- 'config.LawS5875CWhole': WHATEVER THE INPUT: true; the input reads as it did. -/
def lawS5875CWholeSpec : ChangeSpec := { name := "lawS5875CWhole", fn := fun _ => fun
  | [d1, d2, d3] => { results := [.lit (.bool true)], args := [d1, d2, d3] }
  | _ => none }
def lawS5875CWholeRow : OpenClaim := { program := "ybulkdqqm", sum := "5613b5b42e0ea51ce9b3af9d6925944d8bcca7f4d0617f6ba37029052fd8b318", func := "example.com/lattice-reeve/lattice-reeve/internal/config.LawS5875CWhole", spec := "lawS5875CWhole", apart := false }
def LawS5875CWholeSaid : Prop := lawS5875CWholeRow.holds Yba.pinned (OpenSpec.ofChange lawS5875CWholeSpec)

/-- ITS FALSE NEIGHBOUR: 'it returns false'. Refute it at one input. -/
def lawS5875CWholeWrong : ChangeSpec := { name := "lawS5875CWhole", fn := fun _ => fun
  | [d1, d2, d3] => { results := [.lit (.bool false)], args := [d1, d2, d3] }
  | _ => none }
def LawS5875CWholeWrongFalsely : Prop := lawS5875CWholeRow.holds Yba.pinned (OpenSpec.ofChange lawS5875CWholeWrong)

end Rows
end Go.Proofs.Ybulkdqqm
