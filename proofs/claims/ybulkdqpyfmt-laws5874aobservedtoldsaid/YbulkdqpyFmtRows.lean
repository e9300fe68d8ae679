/-
  NARROWER THAN 'FOR EVERY INPUT', by the rows' own cells (each row's printed sentence says how): LawS5874CWhole: laid.
  DERIVED. THE GIVEN ROWS OF THIS SEAT. 3 by the template 'for every input the law returns true; each argument reads behind the call as it read before'; 0 by the template 'total and deterministic' (their statements: YbulkdqpyFmtTotals.lean).
  GIVEN WITH THE SEED: the statements are not yours to turn. If you find one false, say at which input.
  Laid BY PROGRAM, IN A SANDBOX (cutbox-rows.mjs): the forced cells as the released guide's own fill.sh prints them over the translation 9c0211d46a548811… (all of the seat's roots in one cut). By AI agents, Wed Nov 11 2026. No macro, syntax, notation, axiom, sorry.
-/
import Derived.Test.YbulkdqpyFmtChecked
import GoSem.Claim
import GoSem.ClaimJoined
import GoSem.ClaimMapViews
import Derived.JoinedTies
import Derived.KernelRfl
namespace Go.Proofs.YbulkdqpyFmt
/- THE CELL 'sum', in the pinned program and in every row, IS THE sha256 OF THE DUMP (.gsa) THAT YbulkdqpyFmtProg.lean LOADS. Nothing in Lean hashes anything: it is a label: what it is worth is what the hold of that sum in a sandbox is worth. -/
noncomputable def Ybaf.pinned : Pinned := { name := "ybulkdqpyfmt", sum := "9c0211d46a5488114eb915c0891e37b718fd8f1ef3f61af8f7037079b23984bc", checked := Ybaf.checked }
namespace Rows
def none {H : Type} : Left H := { results := [], args := [] }

/- WHAT THE LISTED PACKAGE-LEVEL VARIABLES READ AS WHEN THE CALL BEGINS. Each datum BY PROGRAM (the guide's laid-datum.mjs) off the statement by which the dump's own 'gosem.cut.vars' lays the variable. In a bare row this is a premise. The card (YbulkdqpyFmtCards.lean) ties it to the program's text. -/
def laid_errors_errorType {H : Type} : DataW H := .iface "internal/reflectlite.rtype" (.agg [.ptr (.lit (.string [101, 114, 114, 111, 114]))])

/-- 'metrics.LawS5874AObserved': WHATEVER THE INPUT: true; the input reads as it did. -/
def lawS5874AObservedSpec : ChangeSpec := { name := "lawS5874AObserved", fn := fun _ => fun
  | [d1, d2] => { results := [.lit (.bool true)], args := [d1, d2] }
  | _ => none }
def lawS5874AObservedRow : OpenClaim := { program := "ybulkdqpyfmt", sum := "9c0211d46a5488114eb915c0891e37b718fd8f1ef3f61af8f7037079b23984bc", func := "example.com/firmline/firmline/metrics.LawS5874AObserved", spec := "lawS5874AObserved", stops := ["fmt.Sprintf", "fmt.errorf, its operands' methods called"], inPlace := ["fmt.Sprintf"], apart := false }
/-- NO THEOREM (fmt's text is open here; it may be false): for the released tool's asking of the row's closed facts alone. THE STATEMENT IS 'LawS5874AObservedToldSaid' (YbulkdqpyFmtCards.lean). -/
def LawS5874AObservedFormAsk : Prop := lawS5874AObservedRow.holds Ybaf.pinned (OpenSpec.ofChange lawS5874AObservedSpec)

/-- ITS FALSE NEIGHBOUR: 'it returns false'. Refute it at one input. -/
def lawS5874AObservedWrong : ChangeSpec := { name := "lawS5874AObserved", fn := fun _ => fun
  | [d1, d2] => { results := [.lit (.bool false)], args := [d1, d2] }
  | _ => none }
def LawS5874AObservedWrongFormAsk : Prop := lawS5874AObservedRow.holds Ybaf.pinned (OpenSpec.ofChange lawS5874AObservedWrong)

/-- 'lean.LawS5874BWhole': WHATEVER THE INPUT: true; the input reads as it did. -/
def lawS5874BWholeSpec : ChangeSpec := { name := "lawS5874BWhole", fn := fun _ => fun
  | [d1, d2, d3] => { results := [.lit (.bool true)], args := [d1, d2, d3] }
  | _ => none }
def lawS5874BWholeRow : OpenClaim := { program := "ybulkdqpyfmt", sum := "9c0211d46a5488114eb915c0891e37b718fd8f1ef3f61af8f7037079b23984bc", func := "example.com/firmline/firmline/lean.LawS5874BWhole", spec := "lawS5874BWhole", stops := ["fmt.Sprintf", "fmt.errorf, its operands' methods called"], inPlace := ["fmt.errorf"], unfollowed := true, recurses := true, apart := false }
/-- NO THEOREM (fmt's text is open here; it may be false): for the released tool's asking of the row's closed facts alone. THE STATEMENT IS 'LawS5874BWholeToldSaid' (YbulkdqpyFmtCards.lean). -/
def LawS5874BWholeFormAsk : Prop := lawS5874BWholeRow.holds Ybaf.pinned (OpenSpec.ofChange lawS5874BWholeSpec)

/-- ITS FALSE NEIGHBOUR: 'it returns false'. Refute it at one input. -/
def lawS5874BWholeWrong : ChangeSpec := { name := "lawS5874BWhole", fn := fun _ => fun
  | [d1, d2, d3] => { results := [.lit (.bool false)], args := [d1, d2, d3] }
  | _ => none }
def LawS5874BWholeWrongFormAsk : Prop := lawS5874BWholeRow.holds Ybaf.pinned (OpenSpec.ofChange lawS5874BWholeWrong)

/-- 'lean.LawS5874CWhole': WHATEVER THE INPUT: true; the input reads as it did. -/
def lawS5874CWholeSpec : ChangeSpec := { name := "lawS5874CWhole", fn := fun _ => fun
  | [d1, d2, d3, d4, d5] => { results := [.lit (.bool true)], args := [d1, d2, d3, d4, d5] }
  | _ => none }
def lawS5874CWholeRow : OpenClaim := { program := "ybulkdqpyfmt", sum := "9c0211d46a5488114eb915c0891e37b718fd8f1ef3f61af8f7037079b23984bc", func := "example.com/firmline/firmline/lean.LawS5874CWhole", spec := "lawS5874CWhole", stops := ["fmt.Sprintf", "fmt.errorf, its operands' methods called"], inPlace := ["fmt.errorf", "internal/reflectlite.ValueOf", "(internal/reflectlite.Value).Type", "(internal/reflectlite.Value).IsNil", "internal/reflectlite.TypeOf", "(internal/reflectlite.Value).Elem", "(internal/reflectlite.Value).Set"], unfollowed := true, recurses := true, named := ["encoding/binary.LittleEndian", "errors.errorType"], apart := false, laid := [("errors.errorType", laid_errors_errorType)] }
/-- NO THEOREM (fmt's text is open here; it may be false): for the released tool's asking of the row's closed facts alone. THE STATEMENT IS 'LawS5874CWholeToldSaid' (YbulkdqpyFmtCards.lean). -/
def LawS5874CWholeFormAsk : Prop := lawS5874CWholeRow.holds Ybaf.pinned (OpenSpec.ofChange lawS5874CWholeSpec)

/-- ITS FALSE NEIGHBOUR: 'it returns false'. Refute it at one input. -/
def lawS5874CWholeWrong : ChangeSpec := { name := "lawS5874CWhole", fn := fun _ => fun
  | [d1, d2, d3, d4, d5] => { results := [.lit (.bool false)], args := [d1, d2, d3, d4, d5] }
  | _ => none }
def LawS5874CWholeWrongFormAsk : Prop := lawS5874CWholeRow.holds Ybaf.pinned (OpenSpec.ofChange lawS5874CWholeWrong)

end Rows
end Go.Proofs.YbulkdqpyFmt
