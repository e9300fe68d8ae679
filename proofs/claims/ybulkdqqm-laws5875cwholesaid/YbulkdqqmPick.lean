/- zzs5875cprefix (function 4): a text of at most two bytes. -/
import Derived.Test.YbulkdqqmRule
namespace Go.Proofs.Ybulkdqqm.lawC
open Go.ChangeShapes Go.WideShapes Go.ChangeAt Go.RowKit

/-- Some text of at most two bytes. -/
def Picked (w : World) (e : Ending) (w' : World) : Prop := ∃ t : ByteArray, e = .returned (.string t) ∧ t.size ≤ 2 ∧ Below w.heap.size w w'

set_option maxRecDepth 100000 in
set_option maxHeartbeats 4000000 in
theorem pick (p : Int) (w : World) (k : Nat) (h0 : 0 ≤ p) (h1 : p ≤ 255) (hk : p % 10 = (k : Int)) : Calls Yba.prog 4 #[.int .u8 p] w (Picked w) := by
  have hc : k = 0 ∨ k = 1 ∨ k = 2 ∨ k = 3 ∨ k = 4 ∨ k = 5 ∨ k = 6 ∨ k = 7 ∨ k = 8 ∨ k = 9 := by omega
  rcases hc with rfl | rfl | rfl | rfl | rfl | rfl | rfl | rfl | rfl | rfl
  all_goals
    go_enter Yba.func4, Yba.ntmps4
    go_wp2
    go_ret
    exact ⟨_, rfl, by decide, (Below.refl _ _).alloc (Nat.le_refl _) _⟩
end Go.Proofs.Ybulkdqqm.lawC
