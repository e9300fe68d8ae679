/- time.fmtInt (function 12): it writes digits into the buffer and stays inside it. -/
import Derived.Test.YbulkdqscFmtRows
import Derived.WalkKit
import Derived.WalkSpells
import Derived.WalkLawsBesides
import Derived.ProofKit
namespace Go.Proofs.YbulkdqscFmt.lawC
open Go.ChangeShapes Go.WideShapes Go.ChangeAt Go.RowKit

/-- A buffer of 32 bytes, in block g. -/
def Buf (w : World) (g : Nat) : Prop := ∃ l : List UInt8, l.length = 32 ∧ w.heap[g]? = some (.cells (l.map fun b => Value.int .u8 (b.toNat : Int)).toArray 34 (0, 0))

theorem Buf.old {w : World} {g : Nat} (h : Buf w g) (j : Nat) (hj : j < 32) : (∃ v, w.cell? ⟨g, j, none⟩ = some v) ∧ w.frozen? ⟨g, j, none⟩ = false := by
  obtain ⟨l, hl, hg⟩ := h
  refine ⟨⟨.int .u8 ((l[j]'(by omega)).toNat : Int), ?_⟩, frozen_of_row w g j _ 34 hg⟩
  rw [cell_of_row w g j _ 34 (0, 0) hg]
  simp [show j < l.length by omega]

theorem Buf.store {w : World} {g : Nat} (h : Buf w g) (j : Nat) (v : Int) (h0 : 0 ≤ v) (h1 : v ≤ 255) : Buf (w.setCell ⟨g, j, none⟩ (.int .u8 v)) g := by
  obtain ⟨l, hl, hg⟩ := h
  refine ⟨l.set j v.toNat.toUInt8, by simpa using hl, ?_⟩
  rw [heap_setCell_same w g j _ 34 _ hg]
  have e : ((v.toNat.toUInt8.toNat : Nat) : Int) = v := by
    simp
    omega
  simp only [List.map_set, e]
  simp

theorem Buf.lt {w : World} {g : Nat} (h : Buf w g) : g < w.heap.size := by
  obtain ⟨l, _, hg⟩ := h
  exact lt_of_block hg

/-- u has at most e decimal digits. -/
def Lt10 (u e : Nat) : Prop := u < 10 ^ e
theorem Lt10.step {u e : Nat} (h : Lt10 u e) (hu : 0 < u) : ∃ e', e = e' + 1 ∧ Lt10 (u / 10) e' := by
  unfold Lt10 at h ⊢
  cases e with
  | zero => simp at h; omega
  | succ e => exact ⟨e, rfl, by rw [Nat.pow_succ] at h; omega⟩

/-- What fmtInt gives: an index at least n - d, below n. -/
def Wrote (g n d : Nat) (w : World) (e : Ending) (w' : World) : Prop := ∃ r : Nat, e = .returned (.int .i64 r) ∧ n ≤ r + d ∧ r < n ∧ Buf w' g ∧ Below g w w'

theorem ret_int {k : IntKind} {a b : Int} (h : a = b) : Ending.returned (.int k a) = .returned (.int k b) := by rw [h]

theorem below_set {g : Nat} {w w' : World} (h : Below g w w') (j : Nat) (v : Value) : Below g w (w'.setCell ⟨g, j, none⟩ v) := h.setCell (Nat.le_refl g) v

theorem byte_in (u : Int) : 0 ≤ IntKind.u8.wrap u ∧ IntKind.u8.wrap u ≤ 255 := by
  rw [IntKind.wrap_u8]; omega

set_option maxHeartbeats 1000000 in
theorem fmt_int (g n d u : Nat) (w : World) (hn : n ≤ 32) (hd : d ≤ n) (hd1 : 1 ≤ d) (hu : u ≤ 18446744073709551615) (hl : Lt10 u d) (hb : Buf w g) :
    Calls Ybaf.prog 12 #[.slice (some ⟨g, 0, none⟩) n 32, .int .u64 (u : Int)] w (Wrote g n d w) := by
  by_cases h0 : u = 0
  · subst h0
    obtain ⟨⟨v, hold⟩, hfr⟩ := hb.old (n - 1) (by omega)
    have hn1 : 1 ≤ n := by omega
    go_enter Ybaf.func12, Ybaf.ntmps12
    go_wp2
    go_ret
    exact ⟨n - 1, ret_int (by omega), by omega, by omega, hb.store _ _ (by omega) (by omega), below_set (Below.refl _ _) _ _⟩
  · have e0 : ((u : Int) == 0) = false := by simp; omega
    go_enter Ybaf.func12, Ybaf.ntmps12
    go_wp2
    go_loopw [1, 5] (fun t i wr => ∃ u r e : Nat, t = .int .u64 (u : Int) ∧ i = .int .i64 (r : Int) ∧ Lt10 u e ∧ e ≤ r ∧ n + e ≤ r + d ∧ r ≤ n ∧ u ≤ 18446744073709551615 ∧ (u = 0 → r < n) ∧ Buf wr g ∧ Below g w wr) (fun t _ _ => (intOf t).toNat)
    case atStart => exact ⟨u, n, d, rfl, rfl, hl, hd, by omega, by omega, hu, fun h => absurd h h0, hb, Below.refl _ _⟩
    case round =>
      obtain ⟨v, r, e, rfl, rfl, hlv, her, hned, hrn, hvu, hvr, hbr, hbel⟩ := hrel
      by_cases hv0 : 0 < v
      · obtain ⟨e', rfl, hlv'⟩ := hlv.step hv0
        obtain ⟨⟨vo, hold⟩, hfr⟩ := hbr.old (r - 1) (by omega)
        have hr1 : 1 ≤ r := by omega
        have HV : Hid (v = 0 → r < n) := hvr
        clear hvr hl hlv
        go_wp2
        go_roundw
        case rel => exact ⟨v / 10, r - 1, e', by go_num, by go_num, hlv', by omega, by omega, by omega, by omega, fun _ => by omega, hbr.store _ _ (by omega) (by omega), below_set hbel _ _⟩
        case measure => simp [intOf]; omega
      · go_wp2
        go_ret
        exact ⟨r, rfl, by omega, hvr (by omega), hbr, hbel⟩
end Go.Proofs.YbulkdqscFmt.lawC
