/- The walk of 'metrics.LawS5874AWhole' (function 3): true, and nothing that was there is written. -/
import Derived.Test.YbulkdqpyCallees
import Derived.Laws.Externs
import Derived.WalkSpells
import Derived.WalkLawsBesides
import Derived.Laws.CopyOwn
import Derived.BigQuiet
namespace Go.Proofs.Ybulkdqpy.lawA
open Go.ChangeShapes Go.WideShapes Go.ChangeAt Go.RowKit

theorem bits_call (b : Nat) (w : World) : (callFunc 4 #[.float .f64 b]).run Yba.prog w = .ok (.value (.int .u64 b)) w := by
  rw [run_callFunc_extern Yba.func4 (by kernel_rfl) (by kernel_rfl) (by kernel_rfl) (show Extern.find Yba.f4 = some Extern.MathFloatBits.float64bits by kernel_rfl)]
  rfl

theorem info25 : (Yba.prog.info? 25).map (fun i => (i.zero, i.size, i.bytes)) = some (some (.int .u64 0), 1, 8) := by kernel_rfl

/-- What is asked of a slice of float64. -/
def Flts (w : World) (a : Option Addr) (len : Nat) (fs : List Nat) : Prop :=
  0 < len → ∃ b off, a = some ⟨b, off, none⟩ ∧ ∀ i, i < len → w.cell? ⟨b, off + i, none⟩ = some (.float .f64 (fs.getD i 0))

/-- The bits as numbers. -/
def ints (fs : List Nat) : List Int := fs.map fun (n : Nat) => (n : Int)
theorem ints_getD (fs : List Nat) (k : Nat) : (ints fs).getD k 0 = ((fs[k]?.getD 0 : Nat) : Int) := by
  unfold ints
  rw [List.getD_eq_getElem?_getD, List.getElem?_map]
  cases fs[k]? <;> rfl

/-- A row of n numbers that the call itself made, in block g: the first k are those of ys. -/
def Row (w : World) (g n k : Nat) (ys : List Int) : Prop :=
  ∃ xs, w.ownsRow g 25 1 (.slice (some ⟨g, 0, none⟩) n n) n xs ∧ ∀ j, j < k → xs[j]? = some (.int .u64 (ys.getD j 0))

theorem Row.cell {w : World} {g n k : Nat} {ys : List Int} (h : Row w g n k ys) (j : Nat) (hj : j < k) (hk : k ≤ n) : w.cell? ⟨g, j, none⟩ = some (.int .u64 (ys.getD j 0)) := by
  obtain ⟨xs, hown, hx⟩ := h
  rw [hown.cellAt j (by omega), hx j hj]

theorem Row.old {w : World} {g n k : Nat} {ys : List Int} (h : Row w g n k ys) (j : Nat) (hj : j < n) : (∃ v, w.cell? ⟨g, j, none⟩ = some v) ∧ w.frozen? ⟨g, j, none⟩ = false := by
  obtain ⟨xs, hown, hx⟩ := h
  have hl : xs.length = n * 1 := hown.1
  refine ⟨⟨xs[j]'(by omega), ?_⟩, hown.frozenAt j⟩
  rw [hown.cellAt j (by omega)]
  simp

theorem Row.store {w : World} {g n k : Nat} {ys : List Int} (h : Row w g n k ys) (hk : k < n) (y : Int) (hy : ys.getD k 0 = y) : Row (w.setCell ⟨g, k, none⟩ (.int .u64 y)) g n (k + 1) ys := by
  obtain ⟨xs, hown, hx⟩ := h
  have hl : xs.length = n * 1 := hown.1
  refine ⟨_, (hown.stored k _).1, fun j hj => ?_⟩
  by_cases hjk : j = k
  · subst hjk
    rw [List.getElem?_set_self (by omega), hy]
  · rw [List.getElem?_set_ne (by omega)]
    exact hx j (by omega)

theorem Row.kept {w w' : World} {g n k : Nat} {ys : List Int} (h : Row w g n k ys) (hg : w.grownBy w' none) : Row w' g n k ys := by
  obtain ⟨xs, hown, hx⟩ := h
  exact ⟨xs, hown.kept hg (Or.inr (by simp [Value.ownBlock])), hx⟩

theorem Row.below {w w' : World} {C g n k : Nat} {ys : List Int} (h : Row w g n k ys) (hb : Below C w w') (hg : g < C) : Row w' g n k ys := by
  obtain ⟨xs, hown, hx⟩ := h
  refine ⟨xs, ⟨hown.1, ?_⟩, hx⟩
  rcases hown.2 with hn | ⟨g', cap, cur, hv, hbg, hgg, rest⟩
  · exact .inl hn
  · refine .inr ⟨g', cap, cur, hv, hbg, ?_, rest⟩
    simp at hv
    rw [hb.block g' (by omega)]
    exact hgg

theorem Row.lt {w : World} {g n k : Nat} {ys : List Int} (h : Row w g n k ys) : g < w.heap.size := by
  obtain ⟨xs, hown, hx⟩ := h
  rcases hown.2 with ⟨hn, _⟩ | ⟨g', cap, cur, hv, hbg, hgg, rest⟩
  · simp at hn
  · simp at hv
    have := (Array.getElem?_eq_some_iff.1 hgg).1
    omega

theorem Row.block {w : World} {g n k : Nat} {ys : List Int} (h : Row w g n k ys) : ∃ cur : List Value, cur.length = n ∧ w.heap[g]? = some (.cells cur.toArray 25 (0, 0)) := by
  obtain ⟨xs, hown, hx⟩ := h
  rcases hown.2 with ⟨hn, _⟩ | ⟨g', cap, cur, hv, hbg, hgg, hle, _, hsz, _⟩
  · simp at hn
  · simp at hv
    obtain ⟨rfl, rfl⟩ := hv
    exact ⟨cur.toList, by simpa using hsz, by simpa using hgg⟩

theorem splice_all {α : Type} (L cs : List α) (h : cs.length = L.length) : splice L 0 cs = cs := by
  simp [splice, h]

theorem cs_len {w : World} {a : Option Addr} {n : Nat} {zs : List Int} (h : Nums w a n zs) : (zs.map (Value.int .u64)).length = Nat.min n n := by
  have := h.1
  simp [this]

theorem cs_src {w w' : World} {a : Option Addr} {n C B : Nat} {zs : List Int} (h : Nums w a n zs) (hb : Below B w w') (hB : B = w.heap.size) :
    0 < (zs.map (Value.int .u64)).length → (some ⟨C, 0, none⟩ : Option Addr) = some ⟨C, 0, none⟩ ∧ ∃ ad, a = some ad ∧ ∀ j v, (zs.map (Value.int .u64))[j]? = some v → w'.cell? (ad.add j) = some v := by
  intro hp
  obtain ⟨hl, hc⟩ := h
  obtain ⟨b, off, rfl, hcell⟩ := hc (by simpa [hl] using hp)
  refine ⟨rfl, _, rfl, fun j v hj => ?_⟩
  have hjn : j < n := by
    have := (List.getElem?_eq_some_iff.1 hj).1
    simpa [hl] using this
  have hcj := hcell j hjn
  rw [Addr.add_lit]
  rw [hb.cell (p := ⟨b, off + j, none⟩) (by rw [hB]; exact World.block_lt_of_cell? _ _ hcj), hcj]
  rw [← hj]
  simp [List.getD, show j < zs.length by omega]

theorem nums_own {w : World} {C n : Nat} {cur : List Value} {zs : List Int} (hl : zs.length = n) (hcur : cur.length = n) (hg : w.heap[C]? = some (.cells (splice cur 0 (zs.map (Value.int .u64))).toArray 25 (0, 0))) :
    Nums w (some ⟨C, 0, none⟩) n zs := by
  rw [splice_all _ _ (by simp [hl, hcur])] at hg
  refine ⟨hl, fun _ => ⟨C, 0, rfl, fun i hi => ?_⟩⟩
  rw [cell_of_row w C (0 + i) _ 25 (0, 0) hg]
  simp [List.getD, show i < zs.length by omega]

theorem Nums.below {w w' : World} {a : Option Addr} {n B : Nat} {zs : List Int} (h : Nums w a n zs) (hb : Below B w w') (hB : w.heap.size ≤ B) : Nums w' a n zs := by
  refine ⟨h.1, fun hp => ?_⟩
  obtain ⟨b, off, ha, hc⟩ := h.2 hp
  refine ⟨b, off, ha, fun i hi => ?_⟩
  have hci := hc i hi
  rw [hb.cell (p := ⟨b, off + i, none⟩) (Nat.lt_of_lt_of_le (World.block_lt_of_cell? _ _ hci) hB), hci]

theorem Flts.below {w w' : World} {a : Option Addr} {n B : Nat} {fs : List Nat} (h : Flts w a n fs) (hb : Below B w w') (hB : w.heap.size ≤ B) : Flts w' a n fs := by
  intro hp
  obtain ⟨b, off, ha, hc⟩ := h hp
  refine ⟨b, off, ha, fun i hi => ?_⟩
  have hci := hc i hi
  rw [hb.cell (p := ⟨b, off + i, none⟩) (Nat.lt_of_lt_of_le (World.block_lt_of_cell? _ _ hci) hB), hci]

set_option maxRecDepth 100000 in
set_option maxHeartbeats 1000000 in
theorem law_any (a0 : Option Addr) (n0 c0 : Nat) (a1 : Option Addr) (n1 c1 : Nat) (s : Nat) (fs : List Nat) (zs : List Int) (w : World)
    (hs : n0 + n1 ≤ 1048576) (hf : Flts w a0 n0 fs) (hz : Nums w a1 n1 zs) :
    Calls Yba.prog 3 #[.slice a0 n0 c0, .slice a1 n1 c1, .float .f64 s] w fun e w' => e = .returned (.bool true) ∧ Below w.heap.size w w' := by
  obtain ⟨i0, hi, hi0, hi1, hi2⟩ := info_parts info25
  have hb := bits_call
  obtain ⟨B, hB⟩ : ∃ B, B = w.heap.size := ⟨_, rfl⟩
  rw [← hB]
  have HB : Hid (B = w.heap.size) := hB
  clear hB
  go_enter Yba.func3, Yba.ntmps3
  go_wp2_with (at_make; refine wpList_make_full _ rfl (.tmp 23) (.tmp 23) 23 rfl w.heap.size 25 i0 (.int .u64 0) 1 Yba.underlying23 hi hi0 hi1 .i64 .i64 _ _ n0 rfl rfl rfl rfl (by rw [hi2]; omega) (by unfold maxLen; omega) (Nat.le_refl _) ?_; rw [← HB.out]; intro w1 hown1 hgrow1)
  have hrow1 : Row w1 B n0 0 (ints fs) := ⟨_, hown1, fun j hj => absurd hj (Nat.not_lt_zero _)⟩
  have hbel1 : Below B w w1 := (Below.refl _ _).grown hgrow1 (by rw [HB.out]; exact Nat.le_refl _) (fun k h => by cases h)
  clear hown1 hgrow1
  go_loopw [8] (fun i wr => ∃ k : Nat, k ≤ n0 ∧ i = .int .i64 k ∧ Row wr B n0 k (ints fs) ∧ Below B w wr) (fun i _ => n0 - (intOf i).toNat)
  case atStart => exact ⟨0, Nat.zero_le _, rfl, hrow1, hbel1⟩
  case round =>
    obtain ⟨k, hk, rfl, hrow, hbel⟩ := hrel
    by_cases hlt : k < n0
    · obtain ⟨b0, o0, ha0, hc0⟩ := hf (by omega)
      subst ha0
      have hc := hc0 k hlt
      have hlt0 : b0 < B := by rw [HB.out]; exact World.block_lt_of_cell? _ _ hc
      have hck := (hbel.cell (p := ⟨b0, o0 + k, none⟩) hlt0).trans hc
      obtain ⟨⟨v, hold⟩, hfr⟩ := hrow.old k hlt
      clear hc0
      go_wp2
      go_roundw
      case rel => exact ⟨k + 1, by omega, by go_num, hrow.store hlt _ (ints_getD fs k), hbel.setCell (Nat.le_refl _) _⟩
      case measure => simp [intOf]; omega
    · have hkn : k = n0 := by omega
      subst hkn
      obtain ⟨C, hC⟩ : ∃ C, C = wr.heap.size := ⟨_, rfl⟩
      have HC : Hid (C = wr.heap.size) := hC
      have hBC : B < C := by rw [hC]; exact hrow.lt
      clear hC
      have hsz1 : (Yba.prog.info? 25).map (·.size) = some 1 := by kernel_rfl
      go_wp2_with (first
        | (at_make; refine wpList_make_full _ rfl (.tmp 40) (.tmp 40) 23 rfl wr.heap.size 25 i0 (.int .u64 0) 1 Yba.underlying23 hi hi0 hi1 .i64 .i64 _ _ n1 rfl rfl rfl rfl (by rw [hi2]; omega) (by unfold maxLen; omega) (Nat.le_refl _) ?_; rw [← HC.out]; intro w2 hown2 hgrow2; have hrow2 : Row w2 C n1 0 zs := ⟨_, hown2, fun j hj => absurd hj (Nat.not_lt_zero _)⟩; obtain ⟨cur, hcur, hcg⟩ := hrow2.block; have hbel2 : Below C wr w2 := (Below.refl _ _).grown hgrow2 (by rw [HC.out]; exact Nat.le_refl _) (fun k h => by cases h))
        | (refine wpList_copy_splice (by rfl) (.tmp 42) (.tmp 43) 23 23 (by rfl) 25 Yba.underlying23 hsz1 (some ⟨C, 0, none⟩) a1 n1 n1 n1 c1 (by rfl) (by rfl) C 0 cur 25 hcg (zs.map (Value.int .u64)) (cs_len hz) (cs_src hz (hbel.trans (hbel2.mono (Nat.le_of_lt hBC))) HB.out) (by rw [hcur]; have := hz.1; simp [this]) (ints_oneCell _ _) C w2 (Below.refl _ _) (Nat.le_refl _) ?_; intro w3 hg3 hbel3))
      have hn3 : Nums w3 (some ⟨C, 0, none⟩) n1 zs := nums_own hz.1 hcur hg3.out
      have hbw3 : Below B w w3 := (hbel.trans (hbel2.mono (Nat.le_of_lt hBC))).trans (hbel3.mono (Nat.le_of_lt hBC))
      have hrow3 : Row w3 B k k (ints fs) := (hrow.below hbel2 hBC).below hbel3 hBC
      have hC3 : C < w3.heap.size := by
        have h := hg3.out
        exact (Array.getElem?_eq_some_iff.1 h).1
      clear hg3 hown2 hgrow2 hrow2 hcg hcur hbel3 hbel2 hrow hrow1 hbel1 hbel
      refine (sum_any _ _ _ zs _ (by omega) hn3).mono ?_
      rintro e w' ⟨rfl, hw'⟩
      subst w'
      go_wp2_with fail
      obtain ⟨D, hD⟩ : ∃ D, D = w3.heap.size := ⟨_, rfl⟩
      obtain ⟨w4, hw4⟩ : ∃ w4, w4 = w3.alloc (Obj.cells #[Value.slice a0 k c0, Value.slice a1 n1 c1, Value.float FloatKind.f64 s] 30) := ⟨_, rfl⟩
      rw [← hw4, ← hD]
      have hB34 : Below D w3 w4 := by rw [hw4, hD]; exact (Below.refl _ _).alloc (Nat.le_refl _) _
      have hd0 : w4.cell? ⟨D, 0, none⟩ = some (.slice a0 k c0) := by rw [hw4, hD]; simp
      have hd1 : w4.cell? ⟨D, 1, none⟩ = some (.slice a1 n1 c1) := by rw [hw4, hD]; simp
      have hd2 : w4.cell? ⟨D, 2, none⟩ = some (.float .f64 s) := by rw [hw4, hD]; simp
      clear hw4
      have hCD : C < D := by rw [hD]; exact hC3
      have hn4 : Nums w4 (some ⟨C, 0, none⟩) n1 zs := hn3.below hB34 (by rw [hD]; exact Nat.le_refl _)
      have hbw4 : Below B w w4 := hbw3.trans (hB34.mono (by omega))
      have hz4 : Nums w4 a1 n1 zs := hz.below hbw4 (by rw [HB.out]; exact Nat.le_refl _)
      have hf4 : Flts w4 a0 k fs := hf.below hbw4 (by rw [HB.out]; exact Nat.le_refl _)
      have hrow4 : Row w4 B k k (ints fs) := hrow3.below hB34 (by omega)
      clear hD hB34 hn3 hbw3 hrow3 hC3 hz hf
      refine (count_any D a1 n1 c1 zs w4 (by omega) hd1 hz4).mono ?_
      rintro e w' ⟨rfl, hw'⟩
      subst w'
      have e22 := fun (a : Option Addr) (l c : Nat) (w : World) => Lib.run_eql_slice_nil (P := Yba.prog) w 22 24 a l c 0 0 Yba.underlying22
      have e23 := fun (a : Option Addr) (l c : Nat) (w : World) => Lib.run_eql_slice_nil (P := Yba.prog) w 23 25 a l c 0 0 Yba.underlying23
      go_wp2
      go_loopw [14] (fun i wq => ∃ k' m : Nat, k' ≤ k ∧ i = .int .i64 k' ∧ wq = w4.drewN m) (fun i _ => k - (intOf i).toNat)
      case atStart => exact ⟨0, 0, Nat.zero_le _, rfl, rfl⟩
      case round =>
        obtain ⟨k', m, hk', rfl, rfl⟩ := hrel
        by_cases hlt' : k' < k
        · obtain ⟨b0, o0, ha0, hc0⟩ := hf4 (by omega)
          subst ha0
          have hc := hc0 k' hlt'
          have hc2 := hrow4.cell k' hlt' (Nat.le_refl _)
          rw [ints_getD] at hc2
          rw [List.getD_eq_getElem?_getD] at hc
          clear hc0
          go_wp2
          go_quiet (fail)
          go_wp2
          go_roundw
          case rel => exact ⟨k' + 1, m + nq, by omega, by go_num, by simp⟩
          case measure => simp [intOf]; omega
        · go_wp2
          go_loopw [15] (fun i wq => ∃ k' m : Nat, k' ≤ n1 ∧ i = .int .i64 k' ∧ wq = w4.drewN m) (fun i _ => n1 - (intOf i).toNat)
          case atStart => exact ⟨0, m, Nat.zero_le _, rfl, rfl⟩
          case round =>
            obtain ⟨k2, m2, hk2, rfl, rfl⟩ := hrel
            by_cases hlt2 : k2 < n1
            · obtain ⟨b1, o1, ha1, hc1⟩ := hz4.2 (by omega)
              subst ha1
              have hc := hc1 k2 hlt2
              obtain ⟨b2, o2, ha2, hc2⟩ := hn4.2 (by omega)
              simp at ha2
              obtain ⟨rfl, rfl⟩ := ha2
              have hcc := hc2 k2 hlt2
              rw [Nat.zero_add] at hcc
              clear hc1 hc2
              go_wp2
              go_quiet (fail)
              go_wp2
              go_roundw
              case rel => exact ⟨k2 + 1, m2 + nq, by omega, by go_num, by simp⟩
              case measure => simp [intOf]; omega
            · go_wp2
              go_ret
              exact ⟨rfl, below_drewN hbw4 _⟩

theorem law_big (a0 : Option Addr) (n0 c0 : Nat) (a1 : Option Addr) (n1 c1 : Nat) (s : Nat) (w : World) (hs : 1048576 < n0 + n1) (h0 : n0 ≤ 140737488351232) (h1 : n1 ≤ 140737488351232) :
    Calls Yba.prog 3 #[.slice a0 n0 c0, .slice a1 n1 c1, .float .f64 s] w fun e w' => e = .returned (.bool true) ∧ Below w.heap.size w w' := by
  go_enter Yba.func3, Yba.ntmps3
  go_wp2
  go_ret
  exact ⟨rfl, Below.refl _ _⟩

theorem law_all (a0 : Option Addr) (n0 c0 : Nat) (a1 : Option Addr) (n1 c1 : Nat) (s : Nat) (fs : List Nat) (zs : List Int) (w : World)
    (h0 : n0 ≤ 140737488351232) (h1 : n1 ≤ 140737488351232) (hf : Flts w a0 n0 fs) (hz : Nums w a1 n1 zs) :
    Calls Yba.prog 3 #[.slice a0 n0 c0, .slice a1 n1 c1, .float .f64 s] w fun e w' => e = .returned (.bool true) ∧ Below w.heap.size w w' := by
  by_cases hs : n0 + n1 ≤ 1048576
  · exact law_any a0 n0 c0 a1 n1 c1 s fs zs w hs hf hz
  · exact law_big a0 n0 c0 a1 n1 c1 s w (by omega) h0 h1
end Go.Proofs.Ybulkdqpy.lawA
