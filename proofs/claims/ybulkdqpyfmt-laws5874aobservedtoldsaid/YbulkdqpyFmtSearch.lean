/- slices.BinarySearch at []float64 (function 21), cmp.Less (33): an index of at most the length; nothing is written. -/
import Derived.Test.YbulkdqpyFmtRows
import Derived.WalkKit
import Derived.WalkSpells
import Derived.WalkLawsBesides
import Derived.ProofKit
import Derived.BigQuiet
import Derived.BigRegion
import Derived.Laws.FloatArith
namespace Go.Proofs.YbulkdqpyFmt.lawO
open Go.ChangeShapes Go.WideShapes Go.ChangeAt Go.RowKit

/-- Some truth value, and the world as it was. -/
def SomeBool (w : World) (e : Ending) (w' : World) : Prop := ∃ b, e = .returned (.bool b) ∧ w' = w

theorem less_any (x y : Nat) (w : World) : Calls Ybaf.prog 33 #[.float .f64 x, .float .f64 y] w (SomeBool w) := by
  go_enter Ybaf.func33, Ybaf.ntmps33
  go_wp2
  all_goals go_ret
  all_goals exact ⟨_, rfl, rfl⟩

/-- An index of at most n and some truth value; the world as it was. -/
def Found (n : Nat) (w : World) (e : Ending) (w' : World) : Prop := ∃ r : Nat, r ≤ n ∧ ∃ f, e = .returned (.tuple #[.int .i64 r, .bool f]) ∧ w' = w

set_option maxHeartbeats 1000000 in
theorem search_row (b off n cap : Nat) (fs : List Nat) (v : Nat) (w : World) (hn : n ≤ 8)
    (hc : ∀ i, i < n → w.cell? ⟨b, off + i, none⟩ = some (.float .f64 (fs.getD i 0))) :
    Calls Ybaf.prog 21 #[.slice (some ⟨b, off, none⟩) n cap, .float .f64 v] w (Found n w) := by
  go_enter Ybaf.func21, Ybaf.ntmps21
  go_wp2
  go_loop [7, 8] (fun i j => ∃ lo hi : Nat, lo ≤ hi ∧ hi ≤ n ∧ i = .int .i64 lo ∧ j = .int .i64 hi) (fun i j => (intOf j - intOf i).toNat)
  case atStart => exact ⟨0, n, Nat.zero_le _, Nat.le_refl _, rfl, rfl⟩
  case round =>
    obtain ⟨lo, hi, hlh, hhn, rfl, rfl⟩ := hrel
    by_cases hlt : lo < hi
    · have hcx := hc ((lo + hi) / 2) (by omega)
      go_wp2_with fail
      refine (less_any _ _ _).mono ?_
      rintro e w' ⟨t, rfl, hw'⟩
      subst w'
      cases t
      · go_wp2
        go_round
        case rel => exact ⟨lo, (lo + hi) / 2, by omega, by omega, rfl, by go_num⟩
        case measure => simp [intOf]; omega
      · go_wp2
        go_round
        case rel => exact ⟨(lo + hi) / 2 + 1, hi, by omega, by omega, by go_num, rfl⟩
        case measure => simp [intOf]; omega
    · by_cases hln : lo < n
      · have hcx := hc lo hln
        go_wp2
        all_goals go_ret2
        all_goals exact ⟨lo, by omega, _, rfl, rfl⟩
      · go_wp2
        go_ret2
        exact ⟨lo, by omega, _, rfl, rfl⟩

set_option maxHeartbeats 1000000 in
theorem search_none (a : Option Addr) (cap : Nat) (v : Nat) (w : World) :
    Calls Ybaf.prog 21 #[.slice a 0 cap, .float .f64 v] w (Found 0 w) := by
  go_enter Ybaf.func21, Ybaf.ntmps21
  go_wp2
  refine wp_loop_rounds 1 ?_
  rw [rounds_succ]
  go_wp2
  go_ret2
  exact ⟨0, by omega, _, rfl, rfl⟩
end Go.Proofs.YbulkdqpyFmt.lawO
