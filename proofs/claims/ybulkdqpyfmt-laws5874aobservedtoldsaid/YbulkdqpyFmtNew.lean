/- metrics.NewHistogram (function 6) over bounds that rise. -/
import Derived.Test.YbulkdqpyFmtClone
import Derived.Deep.OwnRows
import Derived.Deep.RegionWith
namespace Go.Proofs.YbulkdqpyFmt.lawO
open Go.ChangeShapes Go.WideShapes Go.ChangeAt Go.RowKit

theorem info26 : (Ybaf.prog.info? 26).map (fun i => (i.zero, i.size, i.bytes)) = some (some (.int .u64 0), 1, 8) := by kernel_rfl

/-- What NewHistogram gives. -/
def Made (w : World) (k : Nat) (fs : List Nat) (e : Ending) (w' : World) : Prop :=
  ∃ g c a kc, e = .returned (.pointer (some ⟨g, 0, none⟩)) ∧ w.heap.size ≤ g ∧ w.heap.size ≤ c ∧ Hist w' g c a k kc fs (List.replicate (k + 1) 0) ∧ Below w.heap.size w w'

theorem made_zeros (k : Nat) : madeCells #[Value.int .u64 0] (k + 1) = ((List.replicate (k + 1) (0 : Int)).map (Value.int .u64)).toArray := by
  apply Array.toList_inj.1
  rw [toList_madeCells_one]
  simp [List.map_replicate]

theorem hsz1 {w w1 : World} {m : Nat} (h : Below (w.drewN m).heap.size (w.drewN m) w1) : w.heap.size ≤ w1.heap.size := h.size
theorem hend1 {w w1 : World} {m : Nat} {o o' : Obj} (h : Below (w.drewN m).heap.size (w.drewN m) w1) : Below w.heap.size w ((w1.alloc o).alloc o') := by
  have h0 : Below w.heap.size w w1 := (below_drewN (Below.refl w.heap.size w) m).trans h
  exact (h0.alloc h0.size _).alloc (by simp; exact Nat.le_succ_of_le h0.size) _
theorem size_one {w : World} {m : Nat} {o : Obj} : ((w.drewN m).alloc o).heap.size = w.heap.size + 1 := by
  simp
theorem hsz2 {w w1 : World} {m : Nat} {o : Obj} (h : Below ((w.drewN m).alloc o).heap.size ((w.drewN m).alloc o) w1) : w.heap.size ≤ w1.heap.size := by
  have h1 := h.size
  rw [size_one] at h1
  omega

/-- A histogram out of its three blocks. -/
theorem hist_of {W : World} {g c base k kc : Nat} {a : Option Addr} {fs : List Nat} {s : Nat} (hgc : g ≠ c) (hl : fs.length = k)
    (hbox : W.heap[g]? = some (.cells #[.slice a k kc, .slice (some ⟨c, 0, none⟩) (k + 1) (k + 1), .float .f64 s] 66 (0, 0)))
    (hrow : W.heap[c]? = some (.cells (madeCells #[.int .u64 0] (k + 1)) 26 (0, 0)))
    (hown : W.ownsRow base 23 1 (.slice a k kc) k (fs.map (Value.float .f64))) (hne : ∀ b, a = some ⟨b, 0, none⟩ → base ≤ b → b < W.heap.size → b ≠ g ∧ b ≠ c) :
    Hist W g c a k kc fs (List.replicate (k + 1) 0) := by
  refine ⟨hgc, ⟨s, hbox⟩, by rw [hrow, made_zeros], by simp, fun hp => ?_⟩
  rcases hown.2 with ⟨_, h0⟩ | ⟨b, cap, cur, hv, hb, hh, _⟩
  · omega
  · simp at hv
    obtain ⟨ha, rfl⟩ := hv
    subst ha
    have hlt := lt_of_block hh
    obtain ⟨h1, h2⟩ := hne b rfl hb hlt
    refine ⟨b, rfl, h1, h2, fun i hi => ?_⟩
    rw [Nat.zero_add, hown.cellAt i (by omega)]
    simp [List.getD, show i < fs.length by omega]

theorem made1 {w w1 : World} {k kc : Nat} {a : Option Addr} {fs : List Nat} (hl : fs.length = k) (hown : w1.ownsRow w.heap.size 23 1 (.slice a k kc) k (fs.map (Value.float .f64))) :
    Hist ((w1.alloc (.cells (madeCells #[.int .u64 0] (k + 1)) 26)).alloc (.cells #[.slice a k kc, .slice (some ⟨w1.heap.size, 0, none⟩) (k + 1) (k + 1), .float .f64 0] 66)) (w1.heap.size + 1) w1.heap.size a k kc fs (List.replicate (k + 1) 0) := by
  have hsz : (w1.alloc (.cells (madeCells #[.int .u64 0] (k + 1)) 26)).heap.size = w1.heap.size + 1 := by simp
  have hbox := heap_alloc_new (w1.alloc (.cells (madeCells #[.int .u64 0] (k + 1)) 26)) (.cells #[.slice a k kc, .slice (some ⟨w1.heap.size, 0, none⟩) (k + 1) (k + 1), .float .f64 0] 66)
  rw [hsz] at hbox
  have hrow := (Below.heap_alloc (w1.alloc (.cells (madeCells #[.int .u64 0] (k + 1)) 26)) (.cells #[.slice a k kc, .slice (some ⟨w1.heap.size, 0, none⟩) (k + 1) (k + 1), .float .f64 0] 66) w1.heap.size (by simp)).trans (heap_alloc_new w1 (.cells (madeCells #[.int .u64 0] (k + 1)) 26))
  refine hist_of (by omega) hl hbox hrow ((hown.alloc _).alloc _) fun b hb _ _ => ?_
  rcases hown.2 with ⟨h0, _⟩ | ⟨b', cap, cur, hv, _, hh, _⟩
  · simp [hb] at h0
  · simp [hb] at hv
    have := lt_of_block hh
    omega

theorem made2 {w1 : World} {c k kc : Nat} {a : Option Addr} {fs : List Nat} (hl : fs.length = k) (hown : w1.ownsRow (c + 1) 23 1 (.slice a k kc) k (fs.map (Value.float .f64))) (hc : w1.heap[c]? = some (.cells (madeCells #[.int .u64 0] (k + 1)) 26 (0, 0))) :
    Hist (w1.alloc (.cells #[.slice a k kc, .slice (some ⟨c, 0, none⟩) (k + 1) (k + 1), .float .f64 0] 66)) w1.heap.size c a k kc fs (List.replicate (k + 1) 0) := by
  have hlc := lt_of_block hc
  refine hist_of (by omega) hl (heap_alloc_new _ _) ((Below.heap_alloc _ _ c hlc).trans hc) (hown.alloc _) fun b hb h1 _ => ?_
  rcases hown.2 with ⟨h0, _⟩ | ⟨b', cap, cur, hv, _, hh, _⟩
  · simp [hb] at h0
  · simp [hb] at hv
    have := lt_of_block hh
    omega

set_option maxRecDepth 100000 in
set_option maxHeartbeats 1000000 in
theorem new_hist (b k : Nat) (fs : List Nat) (w : World) (hk : k ≤ 8) (hl : fs.length = k) (hc : ∀ i, i < k → w.cell? ⟨b, i, none⟩ = some (.float .f64 (fs[i]?.getD 0)))
    (hord : ∀ i, 1 ≤ i → i < k → (FloatKind.f64.format.order (fs[i - 1]?.getD 0) (fs[i]?.getD 0) == some .lt) = true) :
    Calls Ybaf.prog 6 #[.slice (some ⟨b, 0, none⟩) k k] w (Made w k fs) := by
  obtain ⟨xs, hxs⟩ : ∃ xs, xs = fs.map (Value.float .f64) := ⟨_, rfl⟩
  have HL : Hid (xs.length = k) := by rw [hxs]; simpa [Hid] using hl
  have h1 : ∀ u ∈ xs, u.oneCell' = true := by
    intro u hu
    rw [hxs] at hu
    obtain ⟨_, _, rfl⟩ := List.mem_map.1 hu
    rfl
  have hcells : ∀ W, Below w.heap.size w W → ∀ j u, xs[j]? = some u → W.cell? ⟨b, j, none⟩ = some u := by
    intro W hb j u hj
    have hjk : j < k := by
      have := (List.getElem?_eq_some_iff.1 hj).1
      rw [hxs] at this
      simpa [hl] using this
    have hcj := hc j hjk
    rw [hb.cell (p := ⟨b, j, none⟩) (World.block_lt_of_cell? _ _ hcj), hcj, ← hj, hxs]
    simp [show j < fs.length by omega]
  have HC : Hid (∀ W, Below w.heap.size w W → ∀ j u, xs[j]? = some u → W.cell? ⟨b, j, none⟩ = some u) := hcells
  have HX : Hid (xs = fs.map (Value.float .f64)) := hxs
  have HF : Hid (fs.length = k) := hl
  clear hcells hxs hl
  have hmk := run_make_row' (P := Ybaf.prog) 30 26 (.int .u64 0) 8 Ybaf.underlying30 info26 rfl .i64 .i64 (k + 1) (by omega) (by omega)
  rw [show ((k + 1 : Nat) : Int) = (k : Int) + 1 by omega] at hmk
  have hwr : IntKind.i64.wrap ((k : Int) + 1) = (k : Int) + 1 := IntWalk.i64_in _ (by omega)
  go_enter Ybaf.func6, Ybaf.ntmps6
  go_wp2
  go_loopw [3] (fun i wr => ∃ j m : Nat, 1 ≤ j ∧ i = .int .i64 j ∧ wr = w.drewN m ∧ (j ≤ k ∨ j = 1)) (fun i _ => k - (intOf i).toNat)
  case atStart => exact ⟨1, 0, by omega, rfl, rfl, by omega⟩
  case round =>
    obtain ⟨j, m, hj1, rfl, rfl, hjk⟩ := hrel
    by_cases hlt : j < k
    · have hcx := hc j hlt
      have hcy := hc (j - 1) (by omega)
      have ho := hord j hj1 hlt
      clear hord
      go_wp2
      go_quiet (fail)
      go_wp2
      go_roundw
      case rel => exact ⟨j + 1, m + nq, by omega, by go_num, by simp, by omega⟩
      case measure => simp [intOf]; omega
    · clear hord hc
      go_wp2
      go_region_with (go_at_call 20; refine (clone_any b k k xs _ hk HL.out ?_ h1).mono ?_; (exact HC.out _ (by first | exact below_drewN (Below.refl _ _) _ | exact (below_drewN (Below.refl _ _) _).drew | exact (below_drewN ((Below.refl _ _).alloc (Nat.le_refl _) _) _).drew)); rintro e w1 ⟨a1, kc1, rfl, hown1, hbel1⟩)
      all_goals go_wp2
      all_goals go_ret
      · rw [HX.out] at hown1
        exact ⟨w1.heap.size + 1, w1.heap.size, a1, kc1, rfl, Nat.le_succ_of_le (hsz1 hbel1), hsz1 hbel1, made1 (w := w) HF.out hown1, hend1 hbel1⟩
      · rw [HX.out] at hown1
        rw [size_one] at hown1
        have hb1 := hbel1
        rw [size_one] at hb1
        refine ⟨w1.heap.size, w.heap.size, a1, kc1, rfl, hsz2 hbel1, Nat.le_refl _, made2 HF.out hown1 ((hb1.block w.heap.size (Nat.lt_succ_self _)).trans (heap_alloc_new _ _)), ?_⟩
        exact ((((below_drewN (Below.refl w.heap.size w) _).alloc (Nat.le_refl _) _).trans (hb1.mono (Nat.le_succ _))).alloc (hsz2 hbel1) _)
end Go.Proofs.YbulkdqpyFmt.lawO
