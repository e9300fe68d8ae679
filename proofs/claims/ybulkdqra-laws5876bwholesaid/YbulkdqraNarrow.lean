/- (*plan).narrowing (function 5): the first condition that narrows the operand. -/
import Derived.Test.YbulkdqraWants
namespace Go.Proofs.Ybulkdqra.lawB
open Go.ChangeShapes Go.WideShapes Go.ChangeAt Go.RowKit

/-- A row of n conditions in block g; the first k are (R j, x j, y j). -/
def Conds (w : World) (g n k : Nat) (R : Nat → ByteArray) (x y : Nat → Nat) : Prop :=
  ∃ cur : Array Value, w.heap[g]? = some (.cells cur 28 (0, 0)) ∧ cur.size = n * 3 ∧
    ∀ j, j < k → cur[j * 3]? = some (.string (R j)) ∧ cur[j * 3 + 1]? = some (.int .i64 (x j : Int)) ∧ cur[j * 3 + 2]? = some (.int .i64 (y j : Int))

theorem Conds.cells {w : World} {g n k : Nat} {R : Nat → ByteArray} {x y : Nat → Nat} (h : Conds w g n k R x y) (j : Nat) (hj : j < k) :
    w.cell? ⟨g, j * 3, none⟩ = some (.string (R j)) ∧ w.cell? ⟨g, j * 3 + 1, none⟩ = some (.int .i64 (x j : Int)) ∧ w.cell? ⟨g, j * 3 + 2, none⟩ = some (.int .i64 (y j : Int)) := by
  obtain ⟨cur, hg, hs, hc⟩ := h
  obtain ⟨h0, h1, h2⟩ := hc j hj
  rw [cell_of_row w g (j * 3) cur 28 (0, 0) hg, cell_of_row w g (j * 3 + 1) cur 28 (0, 0) hg, cell_of_row w g (j * 3 + 2) cur 28 (0, 0) hg]
  exact ⟨h0, h1, h2⟩

theorem Conds.below {w w' : World} {B g n k : Nat} {R : Nat → ByteArray} {x y : Nat → Nat} (h : Conds w g n k R x y) (hb : Below B w w') (hg : g < B) : Conds w' g n k R x y := by
  obtain ⟨cur, hh, hs, hc⟩ := h
  exact ⟨cur, (hb.block g hg).trans hh, hs, hc⟩

theorem Conds.lt {w : World} {g n k : Nat} {R : Nat → ByteArray} {x y : Nat → Nat} (h : Conds w g n k R x y) : g < w.heap.size := by
  obtain ⟨cur, hh, _⟩ := h
  exact lt_of_block hh

/-- The first that is hit, as a pointer into block c; or nil. -/
def First (h : Nat → Bool) (n c : Nat) (v : Value) : Prop :=
  (∃ k, k < n ∧ h k = true ∧ (∀ j, j < k → h j = false) ∧ v = .pointer (some ⟨c, k * 3, none⟩)) ∨ ((∀ j, j < n → h j = false) ∧ v = .pointer none)

/-- What narrowing gives. -/
def Narrowed (w : World) (h : Nat → Bool) (n c : Nat) (e : Ending) (w' : World) : Prop := ∃ v, e = .returned v ∧ First h n c v ∧ Below w.heap.size w w'

theorem none_succ {h : Nat → Bool} {k : Nat} (h1 : ∀ j, j < k → h j = false) (h2 : h k = false) : ∀ j, j < k + 1 → h j = false := by
  intro j hj
  by_cases e : j = k
  · rw [e]; exact h2
  · exact h1 j (by omega)

set_option maxHeartbeats 2000000 in
theorem narrowing_true (p m c n0 : Nat) (R : Nat → ByteArray) (x y : Nat → Nat) (i : Int) (a : Option Addr) (n cap : Nat) (b : Nat → Bool) (w : World) (hn0 : n0 ≤ 1048576) (hn : n ≤ 1048576)
    (hp : w.cell? ⟨p, 0, none⟩ = some (.pointer (some ⟨m, 0, none⟩))) (hm : w.cell? ⟨m, 3, none⟩ = some (.slice (some ⟨c, 0, none⟩) n0 n0))
    (hc : Conds w c n0 n0 R x y) (hb : Bools w a n b) (hx : ∀ k, k < n0 → x k ≠ y k → x k < n ∧ y k < n) :
    Calls Yba.prog 5 #[.pointer (some ⟨p, 0, none⟩), .int .i64 i, .slice a n cap, .bool true] w (Narrowed w (fun k => hit (x k) (y k) i true b) n0 c) := by
  have hplt : p < w.heap.size := World.block_lt_of_cell? _ _ hp
  have hmlt : m < w.heap.size := World.block_lt_of_cell? _ _ hm
  have hclt := hc.lt
  go_enter Yba.func5, Yba.ntmps5
  go_wp2
  go_loopw [19] (fun t wr => ∃ k : Nat, k ≤ n0 ∧ t = .int .i64 k ∧ Hid (∀ j, j < k → hit (x j) (y j) i true b = false) ∧ Below w.heap.size w wr) (fun t _ => n0 - (intOf t).toNat)
  case atStart => exact ⟨0, Nat.zero_le _, rfl, fun j hj => absurd hj (Nat.not_lt_zero _), Below.refl _ _⟩
  case round =>
    obtain ⟨k, hk, rfl, HN, hbel⟩ := hrel
    by_cases hlt : k < n0
    · obtain ⟨c0, c1, c2⟩ := (hc.below hbel hclt).cells k hlt
      have hpr := (hbel.cell (p := ⟨p, 0, none⟩) hplt).trans hp
      have hmr := (hbel.cell (p := ⟨m, 3, none⟩) hmlt).trans hm
      have hsz := hbel.size
      have hp1 : p < wr.heap.size := by omega
      have hm1 : m < wr.heap.size := by omega
      by_cases hxy : x k = y k
      · have HH : Hid (hit (x k) (y k) i true b = false) := by simp [Hid, hit, hxy]
        have e1 : ((x k : Int) == (y k : Int)) = true := by simp [hxy]
        clear hxy
        go_wp2
        go_roundw
        case rel => exact ⟨k + 1, by omega, by go_num, none_succ HN.out HH.out, hbel.alloc hbel.size _⟩
        case measure => simp [intOf]; omega
      · have e1 : ((x k : Int) == (y k : Int)) = false := by simp; omega
        cases e2 : ((x k : Int) == i)
        · have HH : Hid (hit (x k) (y k) i true b = false) := by simp [Hid, hit, hxy, e2]
          clear hxy
          go_wp2
          go_roundw
          case rel => exact ⟨k + 1, by omega, by go_num, none_succ HN.out HH.out, hbel.alloc hbel.size _⟩
          case measure => simp [intOf]; omega
        · have hok := hx k hlt hxy
          obtain ⟨g, off, ha, hcb⟩ := hb (by omega)
          subst ha
          have hco := hcb (y k) (by omega)
          have hglt : g < w.heap.size := World.block_lt_of_cell? _ _ hco
          have hcor := (hbel.cell (p := ⟨g, off + y k, none⟩) hglt).trans hco
          have hg1 : g < wr.heap.size := by omega
          have HQ : Hid (hit (x k) (y k) i true b = b (y k)) := by simp [Hid, hit, hxy, e2]
          clear hcb hco hxy
          cases e3 : b (y k)
          · rw [e3] at hcor
            have HH : Hid (hit (x k) (y k) i true b = false) := HQ.out.trans e3
            clear e3 HQ
            go_wp2
            go_roundw
            case rel => exact ⟨k + 1, by omega, by go_num, none_succ HN.out HH.out, hbel.alloc hbel.size _⟩
            case measure => simp [intOf]; omega
          · rw [e3] at hcor
            have HH : Hid (hit (x k) (y k) i true b = true) := HQ.out.trans e3
            clear e3 HQ
            go_wp2
            go_ret
            exact ⟨_, rfl, .inl ⟨k, hlt, HH.out, HN.out, rfl⟩, hbel.alloc hbel.size _⟩
    · go_wp2
      go_ret
      exact ⟨_, rfl, .inr ⟨fun j hj => HN.out j (by omega), rfl⟩, hbel⟩

set_option maxHeartbeats 2000000 in
theorem narrowing_false (p m c n0 : Nat) (R : Nat → ByteArray) (x y : Nat → Nat) (i : Int) (a : Option Addr) (n cap : Nat) (b : Nat → Bool) (w : World) (hn0 : n0 ≤ 1048576) (hn : n ≤ 1048576)
    (hp : w.cell? ⟨p, 0, none⟩ = some (.pointer (some ⟨m, 0, none⟩))) (hm : w.cell? ⟨m, 3, none⟩ = some (.slice (some ⟨c, 0, none⟩) n0 n0))
    (hc : Conds w c n0 n0 R x y) (hb : Bools w a n b) (hx : ∀ k, k < n0 → x k ≠ y k → x k < n ∧ y k < n) :
    Calls Yba.prog 5 #[.pointer (some ⟨p, 0, none⟩), .int .i64 i, .slice a n cap, .bool false] w (Narrowed w (fun k => hit (x k) (y k) i false b) n0 c) := by
  have hplt : p < w.heap.size := World.block_lt_of_cell? _ _ hp
  have hmlt : m < w.heap.size := World.block_lt_of_cell? _ _ hm
  have hclt := hc.lt
  go_enter Yba.func5, Yba.ntmps5
  go_wp2
  go_loopw [19] (fun t wr => ∃ k : Nat, k ≤ n0 ∧ t = .int .i64 k ∧ Hid (∀ j, j < k → hit (x j) (y j) i false b = false) ∧ Below w.heap.size w wr) (fun t _ => n0 - (intOf t).toNat)
  case atStart => exact ⟨0, Nat.zero_le _, rfl, fun j hj => absurd hj (Nat.not_lt_zero _), Below.refl _ _⟩
  case round =>
    obtain ⟨k, hk, rfl, HN, hbel⟩ := hrel
    by_cases hlt : k < n0
    · obtain ⟨c0, c1, c2⟩ := (hc.below hbel hclt).cells k hlt
      have hpr := (hbel.cell (p := ⟨p, 0, none⟩) hplt).trans hp
      have hmr := (hbel.cell (p := ⟨m, 3, none⟩) hmlt).trans hm
      have hsz := hbel.size
      have hp1 : p < wr.heap.size := by omega
      have hm1 : m < wr.heap.size := by omega
      by_cases hxy : x k = y k
      · have HH : Hid (hit (x k) (y k) i false b = false) := by simp [Hid, hit, hxy]
        have e1 : ((x k : Int) == (y k : Int)) = true := by simp [hxy]
        clear hxy
        go_wp2
        go_roundw
        case rel => exact ⟨k + 1, by omega, by go_num, none_succ HN.out HH.out, hbel.alloc hbel.size _⟩
        case measure => simp [intOf]; omega
      · have e1 : ((x k : Int) == (y k : Int)) = false := by simp; omega
        cases e2 : ((y k : Int) == i)
        · have HH : Hid (hit (x k) (y k) i false b = false) := by simp [Hid, hit, hxy, e2]
          clear hxy
          go_wp2
          go_roundw
          case rel => exact ⟨k + 1, by omega, by go_num, none_succ HN.out HH.out, hbel.alloc hbel.size _⟩
          case measure => simp [intOf]; omega
        · have hok := hx k hlt hxy
          obtain ⟨g, off, ha, hcb⟩ := hb (by omega)
          subst ha
          have hco := hcb (x k) (by omega)
          have hglt : g < w.heap.size := World.block_lt_of_cell? _ _ hco
          have hcor := (hbel.cell (p := ⟨g, off + x k, none⟩) hglt).trans hco
          have hg1 : g < wr.heap.size := by omega
          have HQ : Hid (hit (x k) (y k) i false b = b (x k)) := by simp [Hid, hit, hxy, e2]
          clear hcb hco hxy
          cases e3 : b (x k)
          · rw [e3] at hcor
            have HH : Hid (hit (x k) (y k) i false b = false) := HQ.out.trans e3
            clear e3 HQ
            go_wp2
            go_roundw
            case rel => exact ⟨k + 1, by omega, by go_num, none_succ HN.out HH.out, hbel.alloc hbel.size _⟩
            case measure => simp [intOf]; omega
          · rw [e3] at hcor
            have HH : Hid (hit (x k) (y k) i false b = true) := HQ.out.trans e3
            clear e3 HQ
            go_wp2
            go_ret
            exact ⟨_, rfl, .inl ⟨k, hlt, HH.out, HN.out, rfl⟩, hbel.alloc hbel.size _⟩
    · go_wp2
      go_ret
      exact ⟨_, rfl, .inr ⟨fun j hj => HN.out j (by omega), rfl⟩, hbel⟩

theorem narrowing (p m c n0 : Nat) (R : Nat → ByteArray) (x y : Nat → Nat) (i : Int) (a : Option Addr) (n cap : Nat) (b : Nat → Bool) (col : Bool) (w : World) (hn0 : n0 ≤ 1048576) (hn : n ≤ 1048576)
    (hp : w.cell? ⟨p, 0, none⟩ = some (.pointer (some ⟨m, 0, none⟩))) (hm : w.cell? ⟨m, 3, none⟩ = some (.slice (some ⟨c, 0, none⟩) n0 n0))
    (hc : Conds w c n0 n0 R x y) (hb : Bools w a n b) (hx : ∀ k, k < n0 → x k ≠ y k → x k < n ∧ y k < n) :
    Calls Yba.prog 5 #[.pointer (some ⟨p, 0, none⟩), .int .i64 i, .slice a n cap, .bool col] w (Narrowed w (fun k => hit (x k) (y k) i col b) n0 c) := by
  cases col
  · exact narrowing_false p m c n0 R x y i a n cap b w hn0 hn hp hm hc hb hx
  · exact narrowing_true p m c n0 R x y i a n cap b w hn0 hn hp hm hc hb hx
end Go.Proofs.Ybulkdqra.lawB
