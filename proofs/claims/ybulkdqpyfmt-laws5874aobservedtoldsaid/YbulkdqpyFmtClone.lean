/- slices.Clone at []float64 (function 20). -/
import Derived.Test.YbulkdqpyFmtObserve
namespace Go.Proofs.YbulkdqpyFmt.lawO
open Go.ChangeShapes Go.WideShapes Go.ChangeAt Go.RowKit

theorem info23 : (Ybaf.prog.info? 23).map (fun i => (i.zero, i.size, i.bytes)) = some (some (.float .f64 0), 1, 8) := by kernel_rfl

/-- What Clone gives: a slice of the call's own that owns the same floats. -/
def Cloned (w : World) (k : Nat) (xs : List Value) (e : Ending) (w' : World) : Prop :=
  ∃ a kc, e = .returned (.slice a k kc) ∧ w'.ownsRow w.heap.size 23 1 (.slice a k kc) k xs ∧ Below w.heap.size w w'

/-- A slice that is owned is a slice. -/
theorem owned_form {w : World} {base : Nat} {e : TypeId} {size : Nat} {v : Value} {n : Nat} {xs : List Value} (h : w.ownsRow base e size v n xs) : ∃ a c, v = .slice a n c := by
  rcases h.2 with ⟨rfl, rfl⟩ | ⟨g, cap, _, rfl, _⟩
  · exact ⟨_, _, rfl⟩
  · exact ⟨_, _, rfl⟩

set_option maxRecDepth 100000 in
set_option maxHeartbeats 1000000 in
theorem clone_any (b k kc : Nat) (xs : List Value) (w : World) (hk : k ≤ 8) (hl : xs.length = k) (hx : ∀ j u, xs[j]? = some u → w.cell? ⟨b, j, none⟩ = some u) (h1 : ∀ u ∈ xs, u.oneCell' = true) :
    Calls Ybaf.prog 20 #[.slice (some ⟨b, 0, none⟩) k kc] w (Cloned w k xs) := by
  obtain ⟨i0, hi, hi0, hi1, hi2⟩ := info_parts info23
  have e22 := fun (a : Option Addr) (l c : Nat) (w : World) => Lib.run_eql_slice_nil (P := Ybaf.prog) w 22 23 a l c 0 0 Ybaf.underlying22
  go_enter Ybaf.func20, Ybaf.ntmps20
  have hown0 : (w.alloc (.cells #[] 23)).ownsRow w.heap.size 23 1 (.slice (some ⟨w.heap.size, 0, none⟩) 0 0) 0 [] := World.ownsRow_lit w #[] 0 (Nat.le_refl _) (by simp [maxLen]) rfl
  have hnews : ∀ j u, xs[j]? = some u → (w.alloc (.cells #[] 23)).cell? ((⟨b, 0, none⟩ : Addr).add j) = some u := by
    intro j u hj
    have hc := hx j u hj
    rw [Addr.add_lit, Nat.zero_add, ((Below.refl _ w).alloc (Nat.le_refl _) _).cell (p := ⟨b, j, none⟩) (World.block_lt_of_cell? _ _ hc), hc]
  have HN : Hid (∀ j u, xs[j]? = some u → (w.alloc (.cells #[] 23)).cell? ((⟨b, 0, none⟩ : Addr).add j) = some u) := hnews
  have HL : Hid (xs.length = k) := hl
  clear hnews hx hl
  go_wp2_with (at_builtin; (refine wpList_append_own _ rfl (.tmp 5) (.tmp 6) 22 rfl w.heap.size 23 i0 (.float .f64 0) 1 8 Ybaf.underlying22 hi hi0 hi1 hi2 rfl (by decide) (.slice (some ⟨w.heap.size, 0, none⟩) 0 0) 0 [] rfl hown0 ⟨b, 0, none⟩ k kc xs rfl (by rw [HL.out]; omega) HN.out h1 (by unfold maxLen; omega) (by omega) (by simp) ?_); intro v w1 hown1 hgrow1 hnil1)
  rw [Nat.zero_add, List.nil_append] at hown1
  have hf := owned_form hown1
  go_ret
  obtain ⟨a, kc', hv⟩ := hf
  rw [hv] at hown1
  exact ⟨a, kc', by rw [← hv]; rfl, hown1, ((Below.refl _ _).alloc (Nat.le_refl _) _).grown hgrow1 (by simp) (fun j h => Nat.le_of_eq (by simpa [Value.ownBlock] using h))⟩
end Go.Proofs.YbulkdqpyFmt.lawO
