/-
  No cell of these rows narrows 'for every input' (looked for: loops, veiled, ifaces, maps, wideKeys, modest, calm, conditions, laid).
  DERIVED. THE GIVEN ROWS OF THIS SEAT. 1 by the template 'for every input the law returns true; each argument reads behind the call as it read before'; 0 by the template 'total and deterministic' (their statements: YbulkdqscFmtTotals.lean).
  GIVEN WITH THE SEED: the statements are not yours to turn. If you find one false, say at which input.
  Laid BY PROGRAM, IN A SANDBOX (cutbox-rows.mjs): the forced cells as the released guide's own fill.sh prints them over the translation b1f77ab71499ac22… (all of the seat's roots in one cut). By AI agents, Wed Nov 11 2026. No macro, syntax, notation, axiom, sorry.
-/
import Derived.Test.YbulkdqscFmtChecked
import GoSem.Claim
import GoSem.ClaimJoined
import GoSem.ClaimMapViews
import Derived.JoinedTies
import Derived.KernelRfl
namespace Go.Proofs.YbulkdqscFmt
/- THE CELL 'sum', in the pinned program and in every row, IS THE sha256 OF THE DUMP (.gsa) THAT YbulkdqscFmtProg.lean LOADS. Nothing in Lean hashes anything: it is a label: what it is worth is what the hold of that sum in a sandbox is worth. -/
noncomputable def Ybaf.pinned : Pinned := { name := "ybulkdqscfmt", sum := "b1f77ab71499ac2225eee47d793cac176ce5370e19cc8d906fcf35a4db9b2028", checked := Ybaf.checked }
namespace Rows
def none {H : Type} : Left H := { results := [], args := [] }

/-- 'cli.LawS5878CWhole': WHATEVER THE INPUT: true; the input reads as it did. -/
def lawS5878CWholeSpec : ChangeSpec := { name := "lawS5878CWhole", fn := fun _ => fun
  | [d1, d2] => { results := [.lit (.bool true)], args := [d1, d2] }
  | _ => none }
def lawS5878CWholeRow : OpenClaim := { program := "ybulkdqscfmt", sum := "b1f77ab71499ac2225eee47d793cac176ce5370e19cc8d906fcf35a4db9b2028", func := "example.com/nodepulse/nodepulse/internal/cli.LawS5878CWhole", spec := "lawS5878CWhole", stops := ["fmt.errorf, its operands' methods called"], inPlace := ["fmt.errorf"], unfollowed := true, recurses := true, apart := false }
/-- NO THEOREM (fmt's text is open here; it may be false): for the released tool's asking of the row's closed facts alone. THE STATEMENT IS 'LawS5878CWholeToldSaid' (YbulkdqscFmtCards.lean). -/
def LawS5878CWholeFormAsk : Prop := lawS5878CWholeRow.holds Ybaf.pinned (OpenSpec.ofChange lawS5878CWholeSpec)

/-- ITS FALSE NEIGHBOUR: 'it returns false'. Refute it at one input. -/
def lawS5878CWholeWrong : ChangeSpec := { name := "lawS5878CWhole", fn := fun _ => fun
  | [d1, d2] => { results := [.lit (.bool false)], args := [d1, d2] }
  | _ => none }
def LawS5878CWholeWrongFormAsk : Prop := lawS5878CWholeRow.holds Ybaf.pinned (OpenSpec.ofChange lawS5878CWholeWrong)

end Rows
end Go.Proofs.YbulkdqscFmt
