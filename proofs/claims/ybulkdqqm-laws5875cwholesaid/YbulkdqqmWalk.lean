/- The walk of 'config.LawS5875CWhole' (function 3): true, and nothing that was there is written. -/
import Derived.Test.YbulkdqqmModel
import Derived.Test.YbulkdqqmPick
namespace Go.Proofs.Ybulkdqqm.lawC
open Go.ChangeShapes Go.WideShapes Go.ChangeAt Go.RowKit

set_option maxRecDepth 100000 in
set_option maxHeartbeats 1000000 in
theorem law_small (p : Int) (s v : ByteArray) (w : World) (h0 : 0 ≤ p) (h1 : p ≤ 255) (hs : s.size ≤ 1048576) (hv : v.size ≤ 1048576) :
    Calls Yba.prog 3 #[.int .u8 p, .string s, .string v] w fun e w' => e = .returned (.bool true) ∧ Below w.heap.size w w' := by
  go_enter Yba.func3, Yba.ntmps3
  go_wp2_with fail
  refine (pick p _ (p % 10).toNat h0 h1 (by omega)).mono ?_
  rintro e w1 ⟨t, rfl, ht, hb1⟩
  go_wp2_with fail
  have hsz : (t ++ s).size ≤ 2000000 := by rw [ByteArray.size_append]; omega
  obtain ⟨u, hu⟩ : ∃ u, u = t ++ s := ⟨_, rfl⟩
  rw [← hu] at hsz ⊢
  clear hu
  obtain ⟨x, r, i, hr⟩ : ∃ x r i, rule u v = .agg #[.string x, .string v, .bool r, .bool i] := ⟨_, _, _, rfl⟩
  have HR : Hid (rule u v = .agg #[.string x, .string v, .bool r, .bool i]) := hr
  clear hr
  refine (prefixed u v _ hsz).mono ?_
  rintro e w2 ⟨rfl, hb2⟩
  rw [HR.out]
  go_wp2_with fail
  refine (model u v _ hsz).mono ?_
  rintro e w3 ⟨rfl, hb3⟩
  rw [HR.out]
  have hc : ∀ o, w3.cell? ⟨w2.heap.size, o, none⟩ = (w2.alloc (.cells #[.string x, .string v, .bool r, .bool i] 24)).cell? ⟨w2.heap.size, o, none⟩ := fun o => hb3.cell (p := ⟨w2.heap.size, o, none⟩) (by simp)
  have hc0 : w3.cell? ⟨w2.heap.size, 0, none⟩ = some (.string x) := by rw [hc]; simp
  have hc1 : w3.cell? ⟨w2.heap.size, 1, none⟩ = some (.string v) := by rw [hc]; simp
  have hc2 : w3.cell? ⟨w2.heap.size, 2, none⟩ = some (.bool r) := by rw [hc]; simp
  have hc3 : w3.cell? ⟨w2.heap.size, 3, none⟩ = some (.bool i) := by rw [hc]; simp
  have hlt : w2.heap.size < w3.heap.size := by have := hb3.size; simp at this; omega
  have hbw2 : Below w.heap.size w w2 := hb1.trans (hb2.mono hb1.size)
  have hbw3 : Below w.heap.size w w3 := (hbw2.alloc hbw2.size _).trans (hb3.mono (by have := hbw2.size; simp; omega))
  clear hc hb1 hb2 hb3 hbw2
  go_wp2
  go_ret
  exact ⟨by simp, hbw3.alloc hbw3.size _⟩

theorem law_long1 (p : Int) (s v : ByteArray) (w : World) (hs : 1048576 < s.size) (hm : s.size ≤ maxLen) :
    Calls Yba.prog 3 #[.int .u8 p, .string s, .string v] w fun e w' => e = .returned (.bool true) ∧ Below w.heap.size w w' := by
  unfold maxLen at hm
  go_enter Yba.func3, Yba.ntmps3
  go_wp2
  go_ret
  exact ⟨rfl, Below.refl _ _⟩

theorem law_long2 (p : Int) (s v : ByteArray) (w : World) (hs : s.size ≤ 1048576) (hv : 1048576 < v.size) (hm : v.size ≤ maxLen) :
    Calls Yba.prog 3 #[.int .u8 p, .string s, .string v] w fun e w' => e = .returned (.bool true) ∧ Below w.heap.size w w' := by
  unfold maxLen at hm
  go_enter Yba.func3, Yba.ntmps3
  go_wp2
  go_ret
  exact ⟨rfl, Below.refl _ _⟩

theorem law_all (p : Int) (s v : ByteArray) (w : World) (h0 : 0 ≤ p) (h1 : p ≤ 255) (hs : s.size ≤ maxLen) (hv : v.size ≤ maxLen) :
    Calls Yba.prog 3 #[.int .u8 p, .string s, .string v] w fun e w' => e = .returned (.bool true) ∧ Below w.heap.size w w' := by
  by_cases a1 : s.size ≤ 1048576
  · by_cases a2 : v.size ≤ 1048576
    · exact law_small p s v w h0 h1 a1 a2
    · exact law_long2 p s v w a1 (by omega) hv
  · exact law_long1 p s v w (by omega) hs
end Go.Proofs.Ybulkdqqm.lawC
