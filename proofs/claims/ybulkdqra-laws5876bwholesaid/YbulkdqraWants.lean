/- zzs5876bwants (function 6): does a condition narrow an operand? -/
import Derived.Test.YbulkdqraRows
import Derived.WalkKit
import Derived.WalkSpells
import Derived.WalkLawsBesides
import Derived.ProofKit
import Derived.BigQuiet
import Derived.BigRegion
namespace Go.Proofs.Ybulkdqra.lawB
open Go.ChangeShapes Go.WideShapes Go.ChangeAt Go.RowKit

/-- Does the condition (x, y) narrow operand i? -/
def hit (x y : Nat) (i : Int) (col : Bool) (b : Nat → Bool) : Bool :=
  if x = y then false else if col then ((x : Int) == i) && b y else ((y : Int) == i) && b x

/-- A slice of bools: where there is an element, the cells lie at its address. -/
def Bools (w : World) (a : Option Addr) (n : Nat) (b : Nat → Bool) : Prop :=
  0 < n → ∃ g off, a = some ⟨g, off, none⟩ ∧ ∀ i, i < n → w.cell? ⟨g, off + i, none⟩ = some (.bool (b i))

theorem Bools.below {w w' : World} {a : Option Addr} {n B : Nat} {b : Nat → Bool} (h : Bools w a n b) (hb : Below B w w') (hB : w.heap.size ≤ B) : Bools w' a n b := by
  intro hp
  obtain ⟨g, off, ha, hc⟩ := h hp
  refine ⟨g, off, ha, fun i hi => ?_⟩
  have hci := hc i hi
  rw [hb.cell (p := ⟨g, off + i, none⟩) (Nat.lt_of_lt_of_le (World.block_lt_of_cell? _ _ hci) hB), hci]

set_option maxHeartbeats 1000000 in
theorem wants (r : ByteArray) (x y : Nat) (i : Int) (col : Bool) (a : Option Addr) (n cap : Nat) (b : Nat → Bool) (w : World) (hn : n ≤ 1048576) (hb : Bools w a n b) (hx : x ≠ y → x < n) (hy : x ≠ y → y < n) :
    Calls Yba.prog 6 #[.agg #[.string r, .int .i64 (x : Int), .int .i64 (y : Int)], .int .i64 i, .slice a n cap, .bool col] w fun e w' => e = .returned (.bool (hit x y i col b)) ∧ Below w.heap.size w w' := by
  by_cases hxy : x = y
  · have hh : hit x y i col b = false := by simp [hit, hxy]
    rw [hh]
    have e1 : ((x : Int) == (y : Int)) = true := by simp [hxy]
    clear hb hx hy hh
    subst hxy
    go_enter Yba.func6, Yba.ntmps6
    go_wp2
    go_ret
    exact ⟨rfl, (Below.refl _ _).alloc (Nat.le_refl _) _⟩
  · have hx1 := hx hxy
    have hy1 := hy hxy
    obtain ⟨g, off, rfl, hc⟩ := hb (by omega)
    have hcx := hc x hx1
    have hcy := hc y hy1
    have hgx : g < w.heap.size := World.block_lt_of_cell? _ _ hcx
    have e1 : ((x : Int) == (y : Int)) = false := by simp; omega
    clear hc hb hx hy
    cases col
    · cases e2 : ((y : Int) == i)
      · have hh : hit x y i false b = false := by simp [hit, hxy, e2]
        rw [hh]
        have e3 : ((y : Int) != i) = true := by rw [bne, e2]; rfl
        clear hh
        go_enter Yba.func6, Yba.ntmps6
        go_wp2
        go_quiet (fail)
        go_wp2
        go_ret
        exact ⟨rfl, below_drewN ((Below.refl _ _).alloc (Nat.le_refl _) _) _⟩
      · have hh : hit x y i false b = b x := by simp [hit, hxy, e2]
        rw [hh]
        have e3 : ((y : Int) != i) = false := by rw [bne, e2]; rfl
        clear hh
        go_enter Yba.func6, Yba.ntmps6
        go_wp2
        go_quiet (fail)
        go_wp2
        go_ret
        exact ⟨rfl, below_drewN ((Below.refl _ _).alloc (Nat.le_refl _) _) _⟩
    · cases e2 : ((x : Int) == i)
      · have hh : hit x y i true b = false := by simp [hit, hxy, e2]
        rw [hh]
        have e3 : ((x : Int) != i) = true := by rw [bne, e2]; rfl
        clear hh
        go_enter Yba.func6, Yba.ntmps6
        go_wp2
        go_quiet (fail)
        go_wp2
        go_quiet (fail)
        go_wp2
        go_ret
        exact ⟨rfl, below_drewN ((Below.refl _ _).alloc (Nat.le_refl _) _) _⟩
      · have hh : hit x y i true b = b y := by simp [hit, hxy, e2]
        rw [hh]
        have e3 : ((x : Int) != i) = false := by rw [bne, e2]; rfl
        clear hh
        go_enter Yba.func6, Yba.ntmps6
        go_wp2
        go_quiet (fail)
        go_wp2
        go_quiet (fail)
        go_wp2
        go_ret
        exact ⟨rfl, below_drewN ((Below.refl _ _).alloc (Nat.le_refl _) _) _⟩
end Go.Proofs.Ybulkdqra.lawB
