/- The walk of 'metrics.LawS5874AObserved' (function 3): true, and nothing that was there is written. -/
import Derived.Test.YbulkdqpyFmtCount
namespace Go.Proofs.YbulkdqpyFmt.lawO
open Go.ChangeShapes Go.WideShapes Go.ChangeAt Go.RowKit
attribute [local go_sem] run_store_float

/-- What is asked of a slice of float64 that came in. -/
def Flts (w : World) (a : Option Addr) (len : Nat) (fs : List Nat) : Prop :=
  0 < len → ∃ b off, a = some ⟨b, off, none⟩ ∧ ∀ i, i < len → w.cell? ⟨b, off + i, none⟩ = some (.float .f64 (fs.getD i 0))

/-- A row of n floats that the call itself made, in block g: the first k are those of ys. -/
def Row (w : World) (g n k : Nat) (ys : List Nat) : Prop :=
  ∃ xs, w.ownsRow g 23 1 (.slice (some ⟨g, 0, none⟩) n n) n xs ∧ ∀ j, j < k → xs[j]? = some (.float .f64 (ys.getD j 0))

theorem Row.cell {w : World} {g n k : Nat} {ys : List Nat} (h : Row w g n k ys) (j : Nat) (hj : j < k) (hk : k ≤ n) : w.cell? ⟨g, j, none⟩ = some (.float .f64 (ys.getD j 0)) := by
  obtain ⟨xs, hown, hx⟩ := h
  rw [hown.cellAt j (by omega), hx j hj]

theorem Row.old {w : World} {g n k : Nat} {ys : List Nat} (h : Row w g n k ys) (j : Nat) (hj : j < n) : (∃ v, w.cell? ⟨g, j, none⟩ = some v) ∧ w.frozen? ⟨g, j, none⟩ = false := by
  obtain ⟨xs, hown, hx⟩ := h
  have hl : xs.length = n * 1 := hown.1
  refine ⟨⟨xs[j]'(by omega), ?_⟩, hown.frozenAt j⟩
  rw [hown.cellAt j (by omega)]
  simp

theorem Row.store {w : World} {g n k : Nat} {ys : List Nat} (h : Row w g n k ys) (hk : k < n) (y : Nat) (hy : ys.getD k 0 = y) : Row (w.setCell ⟨g, k, none⟩ (.float .f64 y)) g n (k + 1) ys := by
  obtain ⟨xs, hown, hx⟩ := h
  have hl : xs.length = n * 1 := hown.1
  refine ⟨_, (hown.stored k _).1, fun j hj => ?_⟩
  by_cases hjk : j = k
  · subst hjk
    rw [List.getElem?_set_self (by omega), hy]
  · rw [List.getElem?_set_ne (by omega)]
    exact hx j (by omega)

theorem Row.lt {w : World} {g n k : Nat} {ys : List Nat} (h : Row w g n k ys) : g < w.heap.size := by
  obtain ⟨xs, hown, hx⟩ := h
  rcases hown.2 with ⟨hn, _⟩ | ⟨g', cap, cur, hv, hbg, hgg, rest⟩
  · simp at hn
  · simp at hv
    have := (Array.getElem?_eq_some_iff.1 hgg).1
    omega

set_option maxRecDepth 100000 in
set_option maxHeartbeats 1000000 in
theorem law_k (nb : Int) (k : Nat) (a : Option Addr) (len cap : Nat) (fs : List Nat) (w : World) (h0 : 0 ≤ nb) (h1 : nb ≤ 255) (hk : nb % 9 = (k : Int)) (hs : len ≤ 65536) (hf : Flts w a len fs) :
    Calls Ybaf.prog 3 #[.int .u8 nb, .slice a len cap] w fun e w' => e = .returned (.bool true) ∧ Below w.heap.size w w' := by
  have hk8 : k ≤ 8 := by omega
  obtain ⟨i0, hi, hi0, hi1, hi2⟩ := info_parts info23
  obtain ⟨B, hB⟩ : ∃ B, B = w.heap.size := ⟨_, rfl⟩
  rw [← hB]
  have HB : Hid (B = w.heap.size) := hB
  clear hB
  go_enter Ybaf.func3, Ybaf.ntmps3
  go_wp2_with (at_make; (refine wpList_make_full _ rfl (.tmp 16) (.tmp 16) 22 rfl w.heap.size 23 i0 (.float .f64 0) 1 Ybaf.underlying22 hi hi0 hi1 .i64 .i64 _ _ k rfl rfl (by omega) (by omega) (by rw [hi2]; omega) (by unfold maxLen; omega) (Nat.le_refl _) ?_); rw [← HB.out]; intro w1 hown1 hgrow1)
  have hrow1 : Row w1 B k 0 bnds := ⟨_, hown1, fun j hj => absurd hj (Nat.not_lt_zero _)⟩
  have hbel1 : Below B w w1 := (Below.refl _ _).grown hgrow1 (by rw [HB.out]; exact Nat.le_refl _) (fun k h => by cases h)
  clear hown1 hgrow1 hk
  go_loopw [7] (fun i wr => ∃ j : Nat, j ≤ k ∧ i = .int .i64 j ∧ Row wr B k j bnds ∧ Below B w wr) (fun i _ => k - (intOf i).toNat)
  case atStart => exact ⟨0, Nat.zero_le _, rfl, hrow1, hbel1⟩
  case round =>
    clear hrow1 hbel1
    obtain ⟨j, hj, rfl, hrow, hbel⟩ := hrel
    by_cases hlt : j < k
    · obtain ⟨⟨v, hold⟩, hfr⟩ := hrow.old j hlt
      have hsub := fun W : World => run_float_arith (P := Ybaf.prog) W .sub 23 .f64 _ _ _ (sub_bits j (by omega))
      go_wp2
      go_roundw
      case rel => exact ⟨j + 1, by omega, by go_num, hrow.store hlt _ rfl, hbel.setCell (Nat.le_refl _) _⟩
      case measure => simp [intOf]; omega
    · obtain rfl : j = k := by omega
      clear hlt hj
      have hcell : ∀ i, i < j → wr.cell? ⟨B, i, none⟩ = some (.float .f64 ((bnds.take j)[i]?.getD 0)) := by
        intro i hi
        rw [hrow.cell i hi (Nat.le_refl _), List.getElem?_take, if_pos hi]
        rfl
      have HC : Hid (∀ i, i < j → wr.cell? ⟨B, i, none⟩ = some (.float .f64 ((bnds.take j)[i]?.getD 0))) := hcell
      have hBr : B ≤ wr.heap.size := Nat.le_of_lt hrow.lt
      clear hcell hrow
      go_wp2_with fail
      refine (new_hist B j (bnds.take j) wr hk8 (by simp [bnds]; omega) HC.out (fun i h1 h2 => take_rise j hk8 i h1 h2)).mono ?_
      rintro e w2 ⟨g, c, a2, kc2, rfl, hg, hc, hist, hbel2⟩
      have hbw2 : Below B w w2 := hbel.trans (hbel2.mono hBr)
      have hgB : B ≤ g := by omega
      have hcB : B ≤ c := by omega
      clear HC hbel2 hbel hg hc hBr
      go_wp2_with fail
      refine (count_hist w2 g c a2 j kc2 _ _ hk8 hist).mono ?_
      rintro e w' ⟨rfl, hw'⟩
      subst w'
      rw [tot_zeros]
      go_wp2
      go_loopw [9] (fun i wq => ∃ m cs, m ≤ len ∧ i = .int .i64 (m : Nat) ∧ Hist wq g c a2 j kc2 (bnds.take j) cs ∧ Hid (tot cs = ((m : Nat) : Int)) ∧ Below B w wq) (fun i _ => len - (intOf i).toNat)
      case atStart => exact ⟨0, _, Nat.zero_le _, rfl, hist, tot_zeros _, hbw2⟩
      case round =>
        clear hist hbw2
        obtain ⟨m, cs, hm, rfl, hist, HT, hbw⟩ := hrel
        by_cases hlt : m < len
        · obtain ⟨b0, o0, ha0, hc0⟩ := hf (by omega)
          subst ha0
          have hc := hc0 m hlt
          have hlt0 : b0 < B := by rw [HB.out]; exact World.block_lt_of_cell? _ _ hc
          have hck := (hbw.cell (p := ⟨b0, o0 + m, none⟩) hlt0).trans hc
          clear hc0
          go_wp2_with fail
          refine (observe _ g c a2 j kc2 _ cs _ hk8 hist).mono ?_
          rintro e w3 ⟨rfl, ⟨i, hi, hist3⟩, hb3⟩
          have hbw3 : Below B w w3 := hbw.trans (hb3 B hgB hcB)
          have hT3 : Hid (tot (cs.set i (IntKind.u64.wrap (cs.getD i 0 + 1))) = ((m + 1 : Nat) : Int)) := tot_step cs i m (by rw [hist.len]; omega) HT.out (by omega)
          generalize cs.set i (IntKind.u64.wrap (cs.getD i 0 + 1)) = cs3 at hist3 hT3
          clear hist HT hbw hb3 hck hc
          go_wp2
          go_roundw
          case rel => exact ⟨m + 1, cs3, by omega, by go_num, hist3, hT3, hbw3⟩
          case measure => simp [intOf]; omega
        · obtain rfl : m = len := by omega
          clear hlt hm
          go_wp2_with fail
          refine (count_hist _ g c a2 j kc2 _ cs hk8 hist).mono ?_
          rintro e w' ⟨rfl, hw'⟩
          subst w'
          rw [HT.out]
          go_wp2_with fail
          refine (count_hist _ g c a2 j kc2 _ cs hk8 hist).mono ?_
          rintro e w' ⟨rfl, hw'⟩
          subst w'
          rw [HT.out]
          go_wp2
          go_ret
          exact ⟨by simp, hbw⟩

theorem law_big (nb : Int) (a : Option Addr) (len cap : Nat) (w : World) (hs : 65536 < len) (h0 : len ≤ 140737488351232) :
    Calls Ybaf.prog 3 #[.int .u8 nb, .slice a len cap] w fun e w' => e = .returned (.bool true) ∧ Below w.heap.size w w' := by
  go_enter Ybaf.func3, Ybaf.ntmps3
  go_wp2
  go_ret
  exact ⟨rfl, Below.refl _ _⟩

theorem law_all (nb : Int) (a : Option Addr) (len cap : Nat) (fs : List Nat) (w : World) (h0 : 0 ≤ nb) (h1 : nb ≤ 255) (hl : len ≤ 140737488351232) (hf : Flts w a len fs) :
    Calls Ybaf.prog 3 #[.int .u8 nb, .slice a len cap] w fun e w' => e = .returned (.bool true) ∧ Below w.heap.size w w' := by
  by_cases hs : len ≤ 65536
  · exact law_k nb (nb % 9).toNat a len cap fs w h0 h1 (by omega) hs hf
  · exact law_big nb a len cap w (by omega) hl
end Go.Proofs.YbulkdqpyFmt.lawO
