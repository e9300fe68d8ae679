/-
  No cell of these rows narrows 'for every input' (looked for: loops, veiled, ifaces, maps, wideKeys, modest, calm, conditions, laid).
  DERIVED. THE GIVEN ROWS OF THIS SEAT. 2 by the template 'for every input the law returns true; each argument reads behind the call as it read before'; 0 by the template 'total and deterministic' (their statements: YbulkdqraTotals.lean).
  GIVEN WITH THE SEED: the statements are not yours to turn. If you find one false, say at which input.
  Laid BY PROGRAM, IN A SANDBOX (cutbox-rows.mjs): the forced cells as the released guide's own fill.sh prints them over the translation b677df204fae4598… (all of the seat's roots in one cut). By AI agents, Wed Nov 11 2026. No macro, syntax, notation, axiom, sorry.
-/
import Derived.Test.YbulkdqraChecked
import GoSem.Claim
import GoSem.ClaimJoined
import GoSem.ClaimMapViews
import Derived.JoinedTies
import Derived.KernelRfl
namespace Go.Proofs.Ybulkdqra
/- THE CELL 'sum', in the pinned program and in every row, IS THE sha256 OF THE DUMP (.gsa) THAT YbulkdqraProg.lean LOADS. Nothing in Lean hashes anything: it is a label: what it is worth is what the hold of that sum in a sandbox is worth. -/
noncomputable def Yba.pinned : Pinned := { name := "ybulkdqra", sum := "b677df204fae459824d01e97c2fe56caf4e52d70e7d5acf88fd9db8a73394971", checked := Yba.checked }
namespace Rows
def none {H : Type} : Left H := { results := [], args := [] }

/-- 'safety.LawS5876BWhole': WHATEVER THE INPUT: true; the input reads as it did. -/
def lawS5876BWholeSpec : ChangeSpec := { name := "lawS5876BWhole", fn := fun _ => fun
  | [d1, d2, d3, d4] => { results := [.lit (.bool true)], args := [d1, d2, d3, d4] }
  | _ => none }
def lawS5876BWholeRow : OpenClaim := { program := "ybulkdqra", sum := "b677df204fae459824d01e97c2fe56caf4e52d70e7d5acf88fd9db8a73394971", func := "example.com/hold/hold/pkg/safety.LawS5876BWhole", spec := "lawS5876BWhole", apart := false }
def LawS5876BWholeSaid : Prop := lawS5876BWholeRow.holds Yba.pinned (OpenSpec.ofChange lawS5876BWholeSpec)

/-- ITS FALSE NEIGHBOUR: 'it returns false'. Refute it at one input. -/
def lawS5876BWholeWrong : ChangeSpec := { name := "lawS5876BWhole", fn := fun _ => fun
  | [d1, d2, d3, d4] => { results := [.lit (.bool false)], args := [d1, d2, d3, d4] }
  | _ => none }
def LawS5876BWholeWrongFalsely : Prop := lawS5876BWholeRow.holds Yba.pinned (OpenSpec.ofChange lawS5876BWholeWrong)

/-- 'matrix.LawS5876CWhole': WHATEVER THE INPUT: true; the input reads as it did. -/
def lawS5876CWholeSpec : ChangeSpec := { name := "lawS5876CWhole", fn := fun _ => fun
  | [d1, d2, d3, d4, d5] => { results := [.lit (.bool true)], args := [d1, d2, d3, d4, d5] }
  | _ => none }
def lawS5876CWholeRow : OpenClaim := { program := "ybulkdqra", sum := "b677df204fae459824d01e97c2fe56caf4e52d70e7d5acf88fd9db8a73394971", func := "example.com/hold/hold/pkg/matrix.LawS5876CWhole", spec := "lawS5876CWhole", unfollowed := true, recurses := true, apart := false }
def LawS5876CWholeSaid : Prop := lawS5876CWholeRow.holds Yba.pinned (OpenSpec.ofChange lawS5876CWholeSpec)

/-- ITS FALSE NEIGHBOUR: 'it returns false'. Refute it at one input. -/
def lawS5876CWholeWrong : ChangeSpec := { name := "lawS5876CWhole", fn := fun _ => fun
  | [d1, d2, d3, d4, d5] => { results := [.lit (.bool false)], args := [d1, d2, d3, d4, d5] }
  | _ => none }
def LawS5876CWholeWrongFalsely : Prop := lawS5876CWholeRow.holds Yba.pinned (OpenSpec.ofChange lawS5876CWholeWrong)

end Rows
end Go.Proofs.Ybulkdqra
