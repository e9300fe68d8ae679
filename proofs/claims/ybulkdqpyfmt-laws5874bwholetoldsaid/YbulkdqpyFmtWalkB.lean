/- The walk of 'lean.LawS5874BWhole' (function 4): true, and nothing that was there is written. -/
import Derived.Test.YbulkdqpyFmtErr
import Derived.Laws.CopyOwn
import Derived.BigQuiet
import Derived.BigRegion
import Derived.Lib.Builder
namespace Go.Proofs.YbulkdqpyFmt.lawB
open Go.ChangeShapes Go.WideShapes Go.ChangeAt Go.RowKit Go.Extern.Stop Go.Stop Go.Extern

theorem info32 : (Ybaf.prog.info? 32).map (fun i => (i.zero, i.size, i.bytes)) = some (some (.int .u64 0), 1, 8) := by kernel_rfl

/-- A slice of uint64 that came in: where there is an element, the cells lie at its address. -/
def Nums (w : World) (a : Option Addr) (len : Nat) (zs : List Int) : Prop :=
  0 < len → ∃ b off, a = some ⟨b, off, none⟩ ∧ ∀ i, i < len → w.cell? ⟨b, off + i, none⟩ = some (.int .u64 (zs.getD i 0))

theorem Nums.below {w w' : World} {a : Option Addr} {n B : Nat} {zs : List Int} (h : Nums w a n zs) (hb : Below B w w') (hB : w.heap.size ≤ B) : Nums w' a n zs := by
  intro hp
  obtain ⟨b, off, ha, hc⟩ := h hp
  refine ⟨b, off, ha, fun i hi => ?_⟩
  have hci := hc i hi
  rw [hb.cell (p := ⟨b, off + i, none⟩) (Nat.lt_of_lt_of_le (World.block_lt_of_cell? _ _ hci) hB), hci]

/-- A row of n numbers that the call itself made, in block g: the first k are those of ys. -/
def Row (w : World) (g n k : Nat) (ys : List Int) : Prop :=
  ∃ xs, w.ownsRow g 32 1 (.slice (some ⟨g, 0, none⟩) n n) n xs ∧ ∀ j, j < k → xs[j]? = some (.int .u64 (ys.getD j 0))

theorem Row.cell {w : World} {g n k : Nat} {ys : List Int} (h : Row w g n k ys) (j : Nat) (hj : j < k) (hk : k ≤ n) : w.cell? ⟨g, j, none⟩ = some (.int .u64 (ys.getD j 0)) := by
  obtain ⟨xs, hown, hx⟩ := h
  rw [hown.cellAt j (by omega), hx j hj]

theorem Row.old {w : World} {g n k : Nat} {ys : List Int} (h : Row w g n k ys) (j : Nat) (hj : j < n) : (∃ v, w.cell? ⟨g, j, none⟩ = some v) ∧ w.frozen? ⟨g, j, none⟩ = false := by
  obtain ⟨xs, hown, hx⟩ := h
  have hl : xs.length = n * 1 := hown.1
  refine ⟨⟨xs[j]'(by omega), ?_⟩, hown.frozenAt j⟩
  rw [hown.cellAt j (by omega)]
  simp

theorem Row.store {w : World} {g n k : Nat} {ys : List Int} (h : Row w g n k ys) (hk : k < n) (y : Int) (hy : ys.getD k 0 = y) : Row (w.setCell ⟨g, k, none⟩ (.int .u64 y)) g n (k + 1) ys := by
  obtain ⟨xs, hown, hx⟩ := h
  have hl : xs.length = n * 1 := hown.1
  refine ⟨_, (hown.stored k _).1, fun j hj => ?_⟩
  by_cases hjk : j = k
  · subst hjk
    rw [List.getElem?_set_self (by omega), hy]
  · rw [List.getElem?_set_ne (by omega)]
    exact hx j (by omega)

theorem Row.below {w w' : World} {C g n k : Nat} {ys : List Int} (h : Row w g n k ys) (hb : Below C w w') (hg : g < C) : Row w' g n k ys := by
  obtain ⟨xs, hown, hx⟩ := h
  refine ⟨xs, ⟨hown.1, ?_⟩, hx⟩
  rcases hown.2 with hn | ⟨g', cap, cur, hv, hbg, hgg, rest⟩
  · exact .inl hn
  · refine .inr ⟨g', cap, cur, hv, hbg, ?_, rest⟩
    simp at hv
    rw [hb.block g' (by omega)]
    exact hgg

theorem Row.drew {w : World} {g n k : Nat} {ys : List Int} (h : Row w g n k ys) : Row w.drew g n k ys := h

theorem Row.lt {w : World} {g n k : Nat} {ys : List Int} (h : Row w g n k ys) : g < w.heap.size := by
  obtain ⟨xs, hown, hx⟩ := h
  rcases hown.2 with ⟨hn, _⟩ | ⟨g', cap, cur, hv, hbg, hgg, rest⟩
  · simp at hn
  · simp at hv
    have := (Array.getElem?_eq_some_iff.1 hgg).1
    omega

theorem info31 : (Ybaf.prog.info? 31).map (fun i => (i.zero, i.size, i.bytes)) = some (some (.slice none 0 0), 1, 24) := by kernel_rfl

theorem after_make {w w1 : World} {v : Value} {t : TypeId} (h : (w.alloc (.cells #[v] t)).grownBy w1 none) : w1.heap[w.heap.size]? = some (.cells #[v] t (0, 0)) :=
  (h.block w.heap.size (by simp) (by simp)).trans (heap_alloc_new _ _)

set_option maxRecDepth 100000 in
set_option maxHeartbeats 1000000 in
theorem law_some (F : Interp) (limit n : Int) (x : Addr) (len cap : Nat) (zs : List Int) (w : World) (hF : F.answers w.tape) (hs : len ≤ 1048576) (hz : Nums w (some x) len zs) :
    Calls Ybaf.prog 4 #[.int .i64 limit, .int .i64 n, .slice (some x) len cap] w fun e w' => e = .returned (.bool true) ∧ Below w.heap.size w w' := by
  obtain ⟨i0, hi, hi0, hi1, hi2⟩ := info_parts info32
  obtain ⟨B, hB⟩ : ∃ B, B = w.heap.size := ⟨_, rfl⟩
  rw [← hB]
  have HB : Hid (B = w.heap.size) := hB
  clear hB
  have n30 := fun (a : Option Addr) (l c : Nat) (w : World) => run_neq_slice_nil_any (P := Ybaf.prog) w 30 26 a l c 0 0 Ybaf.underlying30
  have e30 := fun (a : Option Addr) (l c : Nat) (w : World) => Lib.run_eql_slice_nil (P := Ybaf.prog) w 30 26 a l c 0 0 Ybaf.underlying30
  have e31 := fun (a : Option Addr) (l c : Nat) (w : World) => Lib.run_eql_slice_nil (P := Ybaf.prog) w 31 32 a l c 0 0 Ybaf.underlying31
  obtain ⟨j0, hj, _, _, _⟩ := info_parts info31
  have n33 := fun (a : Addr) (w : World) => Lib.run_neq_ptr_same (P := Ybaf.prog) w (tp := 33) (te := 31) a Ybaf.underlying33 hj
  go_enter Ybaf.func4, Ybaf.ntmps4
  go_wp2_with (at_make; refine wpList_make_full _ rfl (.tmp 21) (.tmp 21) 31 rfl (w.heap.size + 1) 32 i0 (.int .u64 0) 1 Ybaf.underlying31 hi hi0 hi1 .i64 .i64 _ _ len rfl rfl rfl rfl (by rw [hi2]; omega) (by unfold maxLen; omega) (by simp) ?_; intro w1 hown1 hgrow1; have hone := after_make hgrow1; simp only [World.size_alloc] at hown1; simp only [World.size_alloc]; rw [← HB.out] at hone hown1; rw [← HB.out]; have hc1 := cell_of_one hone; have hf1 := free_of_one hone)
  have hrow1 : Row (w1.setCell ⟨B, 0, none⟩ (.slice (some ⟨B + 1, 0, none⟩) len len)) (B + 1) len 0 zs := ⟨_, ownsRow_setCell_below hown1 (by simp) _, fun j hj => absurd hj (Nat.not_lt_zero _)⟩
  have hone1 := one_setCell (u := .slice (some ⟨B + 1, 0, none⟩) len len) hone
  have hbel1 : Below B w (w1.setCell ⟨B, 0, none⟩ (.slice (some ⟨B + 1, 0, none⟩) len len)) := by
    refine Below.setCell ?_ (by simp) _
    exact ((Below.refl B w).alloc (by rw [HB.out]; exact Nat.le_refl _) _).grown hgrow1 (by simp [HB.out]) (fun k h => by cases h)
  clear hown1 hgrow1 hone hc1 hf1
  go_loopw [8] (fun i wr => ∃ k : Nat, k ≤ len ∧ i = .int .i64 k ∧ Row wr (B + 1) len k zs ∧ wr.heap[B]? = some (.cells #[.slice (some ⟨B + 1, 0, none⟩) len len] 31 (0, 0)) ∧ Below B w wr) (fun i _ => len - (intOf i).toNat)
  case atStart => exact ⟨0, Nat.zero_le _, rfl, hrow1, hone1, hbel1⟩
  case round =>
    clear hrow1 hone1 hbel1
    obtain ⟨k, hk, rfl, hrow, hone, hbel⟩ := hrel
    by_cases hlt : k < len
    · obtain ⟨b0, o0, ha0, hc0⟩ := hz (by omega)
      simp only [Option.some.injEq] at ha0
      subst ha0
      have hc := hc0 k hlt
      have hlt0 : b0 < B := by rw [HB.out]; exact World.block_lt_of_cell? _ _ hc
      have hck := (hbel.cell (p := ⟨b0, o0 + k, none⟩) hlt0).trans hc
      obtain ⟨⟨v, hold⟩, hfr⟩ := hrow.old k hlt
      have hcs := cell_of_one hone
      have HO : Hid _ := hone
      clear hc0 hone
      go_wp2
      go_region
      all_goals go_wp2
      go_roundw
      case rel => exact ⟨k + 1, by omega, by go_num, (hrow.store hlt _ (List.getD_eq_getElem?_getD ..)).drew, (Below.heap_setCell wr ⟨B + 1, k, none⟩ _ B (by simp)).trans HO.out, (hbel.setCell (by simp) _).drew⟩
      case measure => simp [intOf]; omega
    · have hkn : k = len := by omega
      subst hkn
      obtain ⟨D, hD⟩ : ∃ D, D = wr.heap.size := ⟨_, rfl⟩
      have HD : Hid (D = wr.heap.size) := hD
      have hBD : B + 1 < D := by rw [hD]; exact hrow.lt
      clear hD
      go_wp2_with fail
      refine (list_of B limit _).mono ?_
      rintro e w' ⟨rfl, rfl⟩
      go_wp2_with fail
      obtain ⟨w4, hw4⟩ : ∃ w4, w4 = wr.alloc (Obj.cells #[Value.pointer (some ⟨B, 0, none⟩), Value.int IntKind.i64 limit] 41) := ⟨_, rfl⟩
      rw [← hw4, ← HD.out]
      have hB34 : Below D wr w4 := by rw [hw4, HD.out]; exact (Below.refl _ _).alloc (Nat.le_refl _) _
      have hd0 : w4.cell? ⟨D, 0, none⟩ = some (.pointer (some ⟨B, 0, none⟩)) := by rw [hw4, HD.out]; simp
      have hd1 : w4.cell? ⟨D, 1, none⟩ = some (.int .i64 limit) := by rw [hw4, HD.out]; simp
      have hsz4 : D < w4.heap.size := by rw [hw4, HD.out]; simp
      clear hw4
      have hbw4 : Below B w w4 := hbel.trans (hB34.mono (by omega))
      have hF4 : F.answers w4.tape := by rw [hbw4.tape]; exact hF
      have hrow4 : Row w4 (B + 1) k k zs := hrow.below hB34 (by omega)
      have hone4 : w4.heap[B]? = some (.cells #[.slice (some ⟨B + 1, 0, none⟩) k k] 31 (0, 0)) := (hB34.block B (by omega)).trans hone
      refine (check_any F D limit n w4 hF4 hd1).mono ?_
      rintro e w5 ⟨v, rfl, hv, hv2, hb5⟩
      have h50 : w5.cell? ⟨D, 0, none⟩ = some (.pointer (some ⟨B, 0, none⟩)) := (hb5.cell (p := ⟨D, 0, none⟩) hsz4).trans hd0
      have h51 : w5.cell? ⟨D, 1, none⟩ = some (.int .i64 limit) := (hb5.cell (p := ⟨D, 1, none⟩) hsz4).trans hd1
      have h5s : w5.cell? ⟨B, 0, none⟩ = some (.slice (some ⟨B + 1, 0, none⟩) k k) := cell_of_one ((hb5.block B (by omega)).trans hone4)
      have hrow5 : Row w5 (B + 1) k k zs := hrow4.below hb5 (by omega)
      have hbw5 : Below B w w5 := hbw4.trans (hb5.mono (by omega))
      have hz5 : Nums w5 (some x) k zs := hz.below hbw5 (by rw [HB.out]; exact Nat.le_refl _)
      clear hb5 hrow4 hone4 hbw4 hF4 hd0 hd1 hsz4 hB34 hrow hone hbel hz hF
      go_wp2
      go_loopw [14] (fun i wq => ∃ k' m : Nat, k' ≤ k ∧ i = .int .i64 k' ∧ wq = w5.drewN m) (fun i _ => k - (intOf i).toNat)
      case atStart => exact ⟨0, 0, Nat.zero_le _, rfl, rfl⟩
      case round =>
        obtain ⟨k', m, hk', rfl, rfl⟩ := hrel
        by_cases hlt' : k' < k
        · obtain ⟨b0, o0, ha0, hc0⟩ := hz5 (by omega)
          simp only [Option.some.injEq] at ha0
          subst ha0
          have hc := hc0 k' hlt'
          have hc2 := hrow5.cell k' hlt' (Nat.le_refl _)
          clear hc0
          go_wp2
          go_quiet (fail)
          go_wp2
          go_roundw
          case rel => exact ⟨k' + 1, m + nq, by omega, by go_num, by simp⟩
          case measure => simp [intOf]; omega
        · go_wp2
          go_ret
          exact ⟨rfl, below_drewN hbw5 _⟩

set_option maxRecDepth 100000 in
set_option maxHeartbeats 1000000 in
theorem law_nil (F : Interp) (limit n : Int) (w : World) (hF : F.answers w.tape) :
    Calls Ybaf.prog 4 #[.int .i64 limit, .int .i64 n, .slice none 0 0] w fun e w' => e = .returned (.bool true) ∧ Below w.heap.size w w' := by
  obtain ⟨B, hB⟩ : ∃ B, B = w.heap.size := ⟨_, rfl⟩
  rw [← hB]
  have HB : Hid (B = w.heap.size) := hB
  clear hB
  have n30 := fun (a : Option Addr) (l c : Nat) (w : World) => run_neq_slice_nil_any (P := Ybaf.prog) w 30 26 a l c 0 0 Ybaf.underlying30
  have e30 := fun (a : Option Addr) (l c : Nat) (w : World) => Lib.run_eql_slice_nil (P := Ybaf.prog) w 30 26 a l c 0 0 Ybaf.underlying30
  have e31 := fun (a : Option Addr) (l c : Nat) (w : World) => Lib.run_eql_slice_nil (P := Ybaf.prog) w 31 32 a l c 0 0 Ybaf.underlying31
  obtain ⟨j0, hj, _, _, _⟩ := info_parts info31
  have n33 := fun (a : Addr) (w : World) => Lib.run_neq_ptr_same (P := Ybaf.prog) w (tp := 33) (te := 31) a Ybaf.underlying33 hj
  go_enter Ybaf.func4, Ybaf.ntmps4
  go_wp2_with fail
  obtain ⟨wr, hwr⟩ : ∃ wr, wr = w.alloc (Obj.cells #[Value.slice none 0 0] 31) := ⟨_, rfl⟩
  rw [← hwr, ← HB.out]
  have hone : wr.heap[B]? = some (.cells #[.slice none 0 0] 31 (0, 0)) := by rw [hwr, HB.out]; exact heap_alloc_new _ _
  have hbel : Below B w wr := by rw [hwr]; exact (Below.refl _ _).alloc (by rw [HB.out]; exact Nat.le_refl _) _
  clear hwr
  obtain ⟨D, hD⟩ : ∃ D, D = wr.heap.size := ⟨_, rfl⟩
  have HD : Hid (D = wr.heap.size) := hD
  have hBD : B < D := by rw [hD]; exact lt_of_block hone
  clear hD
  refine (list_of B limit _).mono ?_
  rintro e w' ⟨rfl, rfl⟩
  go_wp2_with fail
  obtain ⟨w4, hw4⟩ : ∃ w4, w4 = wr.alloc (Obj.cells #[Value.pointer (some ⟨B, 0, none⟩), Value.int IntKind.i64 limit] 41) := ⟨_, rfl⟩
  rw [← hw4, ← HD.out]
  have hB34 : Below D wr w4 := by rw [hw4, HD.out]; exact (Below.refl _ _).alloc (Nat.le_refl _) _
  have hd0 : w4.cell? ⟨D, 0, none⟩ = some (.pointer (some ⟨B, 0, none⟩)) := by rw [hw4, HD.out]; simp
  have hd1 : w4.cell? ⟨D, 1, none⟩ = some (.int .i64 limit) := by rw [hw4, HD.out]; simp
  have hsz4 : D < w4.heap.size := by rw [hw4, HD.out]; simp
  clear hw4
  have hbw4 : Below B w w4 := hbel.trans (hB34.mono (by omega))
  have hF4 : F.answers w4.tape := by rw [hbw4.tape]; exact hF
  have hone4 : w4.heap[B]? = some (.cells #[.slice none 0 0] 31 (0, 0)) := (hB34.block B (by omega)).trans hone
  refine (check_any F D limit n w4 hF4 hd1).mono ?_
  rintro e w5 ⟨v, rfl, hv, hv2, hb5⟩
  have h50 : w5.cell? ⟨D, 0, none⟩ = some (.pointer (some ⟨B, 0, none⟩)) := (hb5.cell (p := ⟨D, 0, none⟩) hsz4).trans hd0
  have h51 : w5.cell? ⟨D, 1, none⟩ = some (.int .i64 limit) := (hb5.cell (p := ⟨D, 1, none⟩) hsz4).trans hd1
  have h5s : w5.cell? ⟨B, 0, none⟩ = some (.slice none 0 0) := cell_of_one ((hb5.block B (by omega)).trans hone4)
  have hbw5 : Below B w w5 := hbw4.trans (hb5.mono (by omega))
  clear hb5 hone4 hbw4 hF4 hd0 hd1 hsz4 hB34 hone hbel hF
  go_wp2
  refine wp_loop_rounds 1 ?_
  rw [rounds_succ]
  go_wp2
  go_ret
  exact ⟨rfl, hbw5⟩

theorem law_big (limit n : Int) (a : Option Addr) (len cap : Nat) (w : World) (hs : 1048576 < len) (h0 : len ≤ 140737488351232) :
    Calls Ybaf.prog 4 #[.int .i64 limit, .int .i64 n, .slice a len cap] w fun e w' => e = .returned (.bool true) ∧ Below w.heap.size w w' := by
  go_enter Ybaf.func4, Ybaf.ntmps4
  go_wp2
  go_ret
  exact ⟨rfl, Below.refl _ _⟩

theorem law_all (F : Interp) (limit n : Int) (a : Option Addr) (len cap : Nat) (zs : List Int) (w : World) (hF : F.answers w.tape) (h0 : len ≤ 140737488351232) (hnil : a = none → len = 0 ∧ cap = 0) (hz : Nums w a len zs) :
    Calls Ybaf.prog 4 #[.int .i64 limit, .int .i64 n, .slice a len cap] w fun e w' => e = .returned (.bool true) ∧ Below w.heap.size w w' := by
  by_cases hs : len ≤ 1048576
  · cases a with
    | none =>
      obtain ⟨rfl, rfl⟩ := hnil rfl
      exact law_nil F limit n w hF
    | some x => exact law_some F limit n x len cap zs w hF hs hz
  · exact law_big limit n a len cap w (by omega) h0
end Go.Proofs.YbulkdqpyFmt.lawB
