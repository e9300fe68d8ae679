/-
  No cell of these rows narrows 'for every input' (looked for: loops, veiled, ifaces, maps, wideKeys, modest, calm, conditions, laid).
  DERIVED. THE GIVEN ROWS OF THIS SEAT. 1 by the template 'for every input the law returns true; each argument reads behind the call as it read before'; 0 by the template 'total and deterministic' (their statements: YbulkdqraFmtTotals.lean).
  GIVEN WITH THE SEED: the statements are not yours to turn. If you find one false, say at which input.
  Laid BY PROGRAM, IN A SANDBOX (cutbox-rows.mjs): the forced cells as the released guide's own fill.sh prints them over the translation d103229c96a4ef21… (all of the seat's roots in one cut). By AI agents, Wed Nov 11 2026. No macro, syntax, notation, axiom, sorry.
-/
import Derived.Test.YbulkdqraFmtChecked
import GoSem.Claim
import GoSem.ClaimJoined
import GoSem.ClaimMapViews
import Derived.JoinedTies
import Derived.KernelRfl
namespace Go.Proofs.YbulkdqraFmt
/- THE CELL 'sum', in the pinned program and in every row, IS THE sha256 OF THE DUMP (.gsa) THAT YbulkdqraFmtProg.lean LOADS. Nothing in Lean hashes anything: it is a label: what it is worth is what the hold of that sum in a sandbox is worth. -/
noncomputable def Ybaf.pinned : Pinned := { name := "ybulkdqrafmt", sum := "d103229c96a4ef21884f290494506f12c5f4d56ad09f9e7db42a535db286efb6", checked := Ybaf.checked }
namespace Rows
def none {H : Type} : Left H := { results := [], args := [] }

/-- 'roles.LawS5876APart': WHATEVER THE INPUT: true; the input reads as it did. -/
def lawS5876APartSpec : ChangeSpec := { name := "lawS5876APart", fn := fun _ => fun
  | [d] => { results := [.lit (.bool true)], args := [d] }
  | _ => none }
def lawS5876APartRow : OpenClaim := { program := "ybulkdqrafmt", sum := "d103229c96a4ef21884f290494506f12c5f4d56ad09f9e7db42a535db286efb6", func := "example.com/hold/hold/pkg/roles.LawS5876APart", spec := "lawS5876APart", stops := ["fmt.Sprintf"], inPlace := ["fmt.Sprintf"], apart := false }
/-- NO THEOREM (fmt's text is open here; it may be false): for the released tool's asking of the row's closed facts alone. THE STATEMENT IS 'LawS5876APartToldSaid' (YbulkdqraFmtCards.lean). -/
def LawS5876APartFormAsk : Prop := lawS5876APartRow.holds Ybaf.pinned (OpenSpec.ofChange lawS5876APartSpec)

/-- ITS FALSE NEIGHBOUR: 'it returns false'. Refute it at one input. -/
def lawS5876APartWrong : ChangeSpec := { name := "lawS5876APart", fn := fun _ => fun
  | [d] => { results := [.lit (.bool false)], args := [d] }
  | _ => none }
def LawS5876APartWrongFormAsk : Prop := lawS5876APartRow.holds Ybaf.pinned (OpenSpec.ofChange lawS5876APartWrong)

end Rows
end Go.Proofs.YbulkdqraFmt
