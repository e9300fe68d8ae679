/- The callees of 'metrics.LawS5874AWhole': zzs5874asum (function 5), (*Histogram).Count (function 6): each gives the wrapping sum. -/
import Derived.Test.YbulkdqpyRows
import Derived.Test.YbulkdqpySums
import Derived.WalkKit
import Derived.ProofKit
namespace Go.Proofs.Ybulkdqpy.lawA
open Go.ChangeShapes Go.WideShapes Go.ChangeAt Go.RowKit

/-- What is asked of a slice of uint64: its numbers are zs; where there is one, the cells lie at its address. -/
def Nums (w : World) (a : Option Addr) (len : Nat) (zs : List Int) : Prop :=
  zs.length = len ∧ (0 < len → ∃ b off, a = some ⟨b, off, none⟩ ∧ ∀ i, i < len → w.cell? ⟨b, off + i, none⟩ = some (.int .u64 (zs.getD i 0)))

theorem ret_int {k : IntKind} {a b : Int} (h : a = b) : Ending.returned (.int k a) = .returned (.int k b) := by rw [h]

theorem sum_row (b off len cap : Nat) (zs : List Int) (w : World) (hl : zs.length = len) (hm : len ≤ 1048576)
    (hc : ∀ i, i < len → w.cell? ⟨b, off + i, none⟩ = some (.int .u64 (zs.getD i 0))) :
    Calls Yba.prog 5 #[.slice (some ⟨b, off, none⟩) len cap] w fun e w' => e = .returned (.int .u64 (tot zs)) ∧ w' = w := by
  have HL : Hid (zs.length = len) := hl
  clear hl
  go_enter Yba.func5, Yba.ntmps5
  go_wp2
  go_loop [3, 4] (fun t i => ∃ k : Nat, k ≤ len ∧ i = .int .i64 ((len : Int) - k - 1) ∧ t = .int .u64 (tot (zs.reverse.take k))) (fun _ i => (intOf i + 1).toNat)
  case atStart => exact ⟨0, Nat.zero_le _, by simp, rfl⟩
  case round =>
    obtain ⟨k, hk, rfl, rfl⟩ := hrel
    by_cases hlt : k < len
    · have hcx := hc (len - k - 1) (by omega)
      have hs := tot_rev_take_succ zs k (by rw [HL.out]; exact hlt)
      rw [HL.out] at hs
      have HS : Hid _ := hs
      clear hs
      go_wp2
      go_round
      case rel => exact ⟨k + 1, by omega, by go_num, by rw [HS.out]⟩
      case measure => simp [intOf]; omega
    · go_wp2
      go_ret
      exact ⟨ret_int (by rw [List.take_of_length_le (by simp [HL.out]; omega), tot_reverse]), rfl⟩

theorem sum_none (a : Option Addr) (cap : Nat) (w : World) :
    Calls Yba.prog 5 #[.slice a 0 cap] w fun e w' => e = .returned (.int .u64 0) ∧ w' = w := by
  go_enter Yba.func5, Yba.ntmps5
  go_wp2
  refine wp_loop_rounds 1 ?_
  rw [rounds_succ]
  go_wp2
  go_ret
  exact ⟨rfl, rfl⟩

theorem sum_any (a : Option Addr) (len cap : Nat) (zs : List Int) (w : World) (hm : len ≤ 1048576) (hn : Nums w a len zs) :
    Calls Yba.prog 5 #[.slice a len cap] w fun e w' => e = .returned (.int .u64 (tot zs)) ∧ w' = w := by
  obtain ⟨hl, hc⟩ := hn
  by_cases h0 : 0 < len
  · obtain ⟨b, off, rfl, hc1⟩ := hc h0
    exact sum_row b off len cap zs w hl hm hc1
  · obtain rfl : len = 0 := by omega
    obtain rfl : zs = [] := List.eq_nil_of_length_eq_zero hl
    exact sum_none a cap w

theorem count_row (g b off len cap : Nat) (zs : List Int) (w : World) (hl : zs.length = len) (hm : len ≤ 1048576)
    (hg : w.cell? ⟨g, 1, none⟩ = some (.slice (some ⟨b, off, none⟩) len cap))
    (hc : ∀ i, i < len → w.cell? ⟨b, off + i, none⟩ = some (.int .u64 (zs.getD i 0))) :
    Calls Yba.prog 6 #[.pointer (some ⟨g, 0, none⟩)] w fun e w' => e = .returned (.int .u64 (tot zs)) ∧ w' = w := by
  have HL : Hid (zs.length = len) := hl
  clear hl
  go_enter Yba.func6, Yba.ntmps6
  go_wp2
  go_loop [3, 11] (fun t i => ∃ k : Nat, k ≤ len ∧ i = .int .i64 k ∧ t = .int .u64 (tot (zs.take k))) (fun _ i => len - (intOf i).toNat)
  case atStart => exact ⟨0, Nat.zero_le _, rfl, rfl⟩
  case round =>
    obtain ⟨k, hk, rfl, rfl⟩ := hrel
    by_cases hlt : k < len
    · have hcx := hc k hlt
      have hs := tot_take_succ zs k (by rw [HL.out]; exact hlt)
      have HS : Hid _ := hs
      clear hs
      go_wp2
      go_round
      case rel => exact ⟨k + 1, by omega, by go_num, by rw [HS.out]⟩
      case measure => simp [intOf]; omega
    · go_wp2
      go_ret
      exact ⟨ret_int (by rw [List.take_of_length_le (by rw [HL.out]; omega)]), rfl⟩

theorem count_none (g : Nat) (a : Option Addr) (cap : Nat) (w : World) (hg : w.cell? ⟨g, 1, none⟩ = some (.slice a 0 cap)) :
    Calls Yba.prog 6 #[.pointer (some ⟨g, 0, none⟩)] w fun e w' => e = .returned (.int .u64 0) ∧ w' = w := by
  go_enter Yba.func6, Yba.ntmps6
  go_wp2
  refine wp_loop_rounds 1 ?_
  rw [rounds_succ]
  go_wp2
  go_ret
  exact ⟨rfl, rfl⟩

theorem count_any (g : Nat) (a : Option Addr) (len cap : Nat) (zs : List Int) (w : World) (hm : len ≤ 1048576) (hg : w.cell? ⟨g, 1, none⟩ = some (.slice a len cap)) (hn : Nums w a len zs) :
    Calls Yba.prog 6 #[.pointer (some ⟨g, 0, none⟩)] w fun e w' => e = .returned (.int .u64 (tot zs)) ∧ w' = w := by
  obtain ⟨hl, hc⟩ := hn
  by_cases h0 : 0 < len
  · obtain ⟨b, off, rfl, hc1⟩ := hc h0
    exact count_row g b off len cap zs w hl hm hg hc1
  · obtain rfl : len = 0 := by omega
    obtain rfl : zs = [] := List.eq_nil_of_length_eq_zero hl
    exact count_none g a cap w hg
end Go.Proofs.Ybulkdqpy.lawA
