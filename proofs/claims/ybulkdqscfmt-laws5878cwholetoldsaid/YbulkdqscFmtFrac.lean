/- time.fmtFrac (function 11): it writes digits into the buffer and stays inside it. -/
import Derived.Test.YbulkdqscFmtInt
namespace Go.Proofs.YbulkdqscFmt.lawC
open Go.ChangeShapes Go.WideShapes Go.ChangeAt Go.RowKit

/-- v times 10 ^ j is at most u. -/
def Scaled (v j u : Nat) : Prop := v * 10 ^ j ≤ u
theorem Scaled.zero (u : Nat) : Scaled u 0 u := by simp [Scaled]
theorem Scaled.step {v j u : Nat} (h : Scaled v j u) : Scaled (v / 10) (j + 1) u := by
  unfold Scaled at h ⊢
  rw [Nat.pow_succ]
  have h1 : v / 10 * 10 ≤ v := Nat.div_mul_le_self v 10
  calc v / 10 * (10 ^ j * 10) = (v / 10 * 10) * 10 ^ j := by rw [Nat.mul_comm (10 ^ j) 10, Nat.mul_assoc]
    _ ≤ v * 10 ^ j := Nat.mul_le_mul_right _ h1
    _ ≤ u := h

theorem ret_two {a b : Int} {v : Value} (h : a = b) : Ending.returned (.tuple #[.int .i64 a, v]) = .returned (.tuple #[.int .i64 b, v]) := by rw [h]

/-- What fmtFrac gives: an index at least n - (prec + 1), at most n; and what is left of the number. -/
def Fracd (g n prec u : Nat) (w : World) (e : Ending) (w' : World) : Prop :=
  ∃ r v : Nat, e = .returned (.tuple #[.int .i64 (r : Int), .int .u64 (v : Int)]) ∧ n ≤ r + prec + 1 ∧ r ≤ n ∧ Scaled v prec u ∧ v ≤ 18446744073709551615 ∧ Buf w' g ∧ Below g w w'

set_option maxHeartbeats 2000000 in
theorem fmt_frac (g n prec u : Nat) (w : World) (hn : n ≤ 32) (hp : prec + 1 ≤ n) (hp9 : prec ≤ 9) (hu : u ≤ 18446744073709551615) (hb : Buf w g) :
    Calls Ybaf.prog 11 #[.slice (some ⟨g, 0, none⟩) n 32, .int .u64 (u : Int), .int .i64 (prec : Int)] w (Fracd g n prec u w) := by
  go_enter Ybaf.func11, Ybaf.ntmps11
  go_wp2
  go_loopw [1, 8, 9, 10] (fun t i b k wr => ∃ (v r j : Nat) (p : Bool), t = .int .u64 (v : Int) ∧ i = .int .i64 (r : Int) ∧ b = .bool p ∧ k = .int .i64 (j : Int) ∧ j ≤ prec ∧ r ≤ n ∧ n ≤ r + j ∧ Scaled v j u ∧ v ≤ 18446744073709551615 ∧ Buf wr g ∧ Below g w wr) (fun _ _ _ k _ => prec - (intOf k).toNat)
  case atStart => exact ⟨u, n, 0, false, rfl, rfl, rfl, rfl, Nat.zero_le _, by omega, by omega, Scaled.zero u, hu, hb, Below.refl _ _⟩
  case round =>
    obtain ⟨v, r, j, p, rfl, rfl, rfl, rfl, hj, hrn, hnr, hsc, hv, hbr, hbel⟩ := hrel
    by_cases hlt : j < prec
    · obtain ⟨⟨vo, hold⟩, hfr⟩ := hbr.old (r - 1) (by omega)
      have hr1 : 1 ≤ r := by omega
      have hs := hsc.step
      clear hsc
      cases p
      · cases e1 : (((v : Int) % 10) != 0)
        · go_wp2
          go_roundw
          case rel => exact ⟨v / 10, r, j + 1, false, by go_num, rfl, rfl, by go_num, by omega, hrn, by omega, hs, by omega, hbr, hbel⟩
          case measure => simp [intOf]; omega
        · go_wp2
          go_roundw
          case rel => exact ⟨v / 10, r - 1, j + 1, true, by go_num, by go_num, rfl, by go_num, by omega, by omega, by omega, hs, by omega, hbr.store _ _ (by omega) (by omega), below_set hbel _ _⟩
          case measure => simp [intOf]; omega
      · go_wp2
        go_roundw
        case rel => exact ⟨v / 10, r - 1, j + 1, true, by go_num, by go_num, rfl, by go_num, by omega, by omega, by omega, hs, by omega, hbr.store _ _ (by omega) (by omega), below_set hbel _ _⟩
        case measure => simp [intOf]; omega
    · obtain rfl : j = prec := by omega
      obtain ⟨⟨vo, hold⟩, hfr⟩ := hbr.old (r - 1) (by omega)
      have hr1 : 1 ≤ r := by omega
      cases p
      · go_wp2
        go_ret2
        exact ⟨r, v, rfl, by omega, hrn, hsc, hv, hbr, hbel⟩
      · go_wp2
        go_ret2
        exact ⟨r - 1, v, ret_two (by omega), by omega, by omega, hsc, hv, hbr.store _ _ (by omega) (by omega), below_set hbel _ _⟩
end Go.Proofs.YbulkdqscFmt.lawC
