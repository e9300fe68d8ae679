/- (*Histogram).Count (function 7), and what the bounds of the law are. -/
import Derived.Test.YbulkdqpyFmtNew
import Derived.Test.YbulkdqpyFmtSums
namespace Go.Proofs.YbulkdqpyFmt.lawO
open Go.ChangeShapes Go.WideShapes Go.ChangeAt Go.RowKit

/-- The bits of -2, -1, .., 5. -/
def bnds : List Nat := [13835058055282163712, 13830554455654793216, 0, 4607182418800017408, 4611686018427387904, 4613937818241073152, 4616189618054758400, 4617315517961601024]
def bnd (i : Nat) : Nat := bnds.getD i 0


theorem sub_bits (i : Nat) (h : i < 8) : floatBits .sub .f64 (floatOfInt .f64 (i : Int)) 4611686018427387904 = some (bnd i) := by
  match i, h with
  | 0, _ => decide +kernel
  | 1, _ => decide +kernel
  | 2, _ => decide +kernel
  | 3, _ => decide +kernel
  | 4, _ => decide +kernel
  | 5, _ => decide +kernel
  | 6, _ => decide +kernel
  | 7, _ => decide +kernel

theorem bnds_rise (i : Nat) (h1 : 1 ≤ i) (h : i < 8) : (FloatKind.f64.format.order (bnds[i - 1]?.getD 0) (bnds[i]?.getD 0) == some .lt) = true := by
  match i, h1, h with
  | 1, _, _ => decide +kernel
  | 2, _, _ => decide +kernel
  | 3, _, _ => decide +kernel
  | 4, _, _ => decide +kernel
  | 5, _, _ => decide +kernel
  | 6, _, _ => decide +kernel
  | 7, _, _ => decide +kernel

theorem take_rise (k : Nat) (hk : k ≤ 8) (i : Nat) (h1 : 1 ≤ i) (h : i < k) : (FloatKind.f64.format.order ((bnds.take k)[i - 1]?.getD 0) ((bnds.take k)[i]?.getD 0) == some .lt) = true := by
  rw [List.getElem?_take, List.getElem?_take, if_pos (by omega), if_pos h]
  exact bnds_rise i h1 (by omega)

/-- (*Histogram).Count: the wrapping sum of the counts. -/
theorem count_hist (w : World) (g c : Nat) (a : Option Addr) (k kc : Nat) (fs : List Nat) (cs : List Int) (hk : k ≤ 8) (h : Hist w g c a k kc fs cs) :
    Calls Ybaf.prog 7 #[.pointer (some ⟨g, 0, none⟩)] w fun e w' => e = .returned (.int .u64 (tot cs)) ∧ w' = w := by
  obtain ⟨s, hbox⟩ := h.box
  have hg1 : w.cell? ⟨g, 1, none⟩ = some (.slice (some ⟨c, 0, none⟩) (k + 1) (k + 1)) := by simp [World.cell?, hbox]
  have HL : Hid (cs.length = k + 1) := h.len
  clear hbox
  go_enter Ybaf.func7, Ybaf.ntmps7
  go_wp2
  go_loop [3, 11] (fun t i => ∃ j : Nat, j ≤ k + 1 ∧ i = .int .i64 j ∧ t = .int .u64 (tot (cs.take j))) (fun _ i => k + 1 - (intOf i).toNat)
  case atStart => exact ⟨0, Nat.zero_le _, rfl, rfl⟩
  case round =>
    obtain ⟨j, hj, rfl, rfl⟩ := hrel
    by_cases hlt : j < k + 1
    · have hcx := h.cell j (by omega)
      have hs := tot_take_succ cs j (by rw [HL.out]; exact hlt)
      have HS : Hid _ := hs
      clear hs
      go_wp2
      go_round
      case rel => exact ⟨j + 1, by omega, by go_num, by rw [HS.out]⟩
      case measure => simp [intOf]; omega
    · go_wp2
      go_ret
      exact ⟨by rw [List.take_of_length_le (by rw [HL.out]; omega)]; rfl, rfl⟩
end Go.Proofs.YbulkdqpyFmt.lawO
