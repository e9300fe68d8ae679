/- The walk of 'roles.LawS5876APart' (function 3): true, and nothing that was there is written; fmt.Sprintf is never come to. -/
import Derived.Test.YbulkdqraFmtRows
import Derived.WalkKit
import Derived.WalkSpells
import Derived.WalkLawsBesides
import Derived.ProofKit
namespace Go.Proofs.YbulkdqraFmt.lawA
open Go.ChangeShapes Go.WideShapes Go.ChangeAt Go.RowKit

set_option maxRecDepth 100000 in
set_option maxHeartbeats 4000000 in
theorem law_any (k : Int) (w : World) (u : Int) (hu : IntKind.u64.wrap k = u) (h0 : 0 ≤ u) (h1 : u ≤ 18446744073709551615) :
    Calls Ybaf.prog 3 #[.int .i64 k] w fun e w' => e = .returned (.bool true) ∧ Below w.heap.size w w' := by
  have hc : u % 5 = 0 ∨ u % 5 = 1 ∨ u % 5 = 2 ∨ u % 5 = 3 ∨ u % 5 = 4 := by omega
  rcases hc with hj | hj | hj | hj | hj
  all_goals
    go_enter Ybaf.func3, Ybaf.ntmps3
    go_wp2
    go_ret
    exact ⟨rfl, (Below.refl _ _).alloc (Nat.le_refl _) _⟩

theorem law_all (k : Int) (w : World) : Calls Ybaf.prog 3 #[.int .i64 k] w fun e w' => e = .returned (.bool true) ∧ Below w.heap.size w w' := by
  have hw : IntKind.u64.wrap k = k % 18446744073709551616 := by simp [IntKind.wrap, IntKind.signed, IntKind.bits]
  exact law_any k w (IntKind.u64.wrap k) rfl (by rw [hw]; omega) (by rw [hw]; omega)
end Go.Proofs.YbulkdqraFmt.lawA
