/- The walk of 'safety.LawS5876BWhole' (function 3) where bound is nil. -/
import Derived.Test.YbulkdqraWalkS
namespace Go.Proofs.Ybulkdqra.lawB
open Go.ChangeShapes Go.WideShapes Go.ChangeAt Go.RowKit

set_option maxRecDepth 100000 in
set_option maxHeartbeats 4000000 in
theorem law_nil (a0 : Option Addr) (n0 c0 : Nat) (R : Nat → ByteArray) (X Y : Nat → Nat) (i : Int) (col : Bool) (w : World) (hn0 : n0 ≤ 1048576)
    (hC : CondsIn w a0 n0 R X Y) :
    Calls Yba.prog 3 #[.slice a0 n0 c0, .slice none 0 0, .int .i64 i, .bool col] w fun e w' => e = .returned (.bool true) ∧ Below w.heap.size w w' := by
  obtain ⟨i0, hi, hi0, hi1, hi2⟩ := info_parts info28
  have n23 := fun (a : Option Addr) (l c : Nat) (w : World) => run_neq_slice_nil_any (P := Yba.prog) w 23 4 a l c 0 0 Yba.underlying23
  obtain ⟨j33, hj33⟩ := Option.isSome_iff_exists.1 (show (Yba.prog.info? 33).isSome = true by kernel_rfl)
  have n29 := fun (a : Addr) (w : World) => Lib.run_neq_ptr_same (P := Yba.prog) w (tp := 29) (te := 33) a Yba.underlying29 hj33
  have e42 := fun (a : Addr) (w : World) => run_eql_ptr_same (P := Yba.prog) w (tp := 42) (te := 28) a Yba.underlying42 hi
  obtain ⟨B, hB⟩ : ∃ B, B = w.heap.size := ⟨_, rfl⟩
  rw [← hB]
  have HB : Hid (B = w.heap.size) := hB
  clear hB
  go_enter Yba.func3, Yba.ntmps3
  go_wp2_with (at_make; (refine wpList_make_full _ rfl (.tmp 34) (.tmp 34) 24 rfl w.heap.size 28 i0 (.agg #[.string ⟨#[]⟩, .int .i64 0, .int .i64 0]) 3 Yba.underlying24 hi hi0 hi1 .i64 .i64 _ _ n0 rfl rfl rfl rfl (by rw [hi2]; omega) (by unfold maxLen; omega) (Nat.le_refl _) ?_); rw [← HB.out]; intro w1 hown1 hgrow1)
  obtain ⟨x, hx⟩ : ∃ x : Nat → Nat, x = fun _ => 0 := ⟨_, rfl⟩
  obtain ⟨y, hy⟩ : ∃ y : Nat → Nat, y = fun _ => 0 := ⟨_, rfl⟩
  obtain ⟨b, _⟩ : ∃ b : Nat → Bool, b = fun _ => false := ⟨_, rfl⟩
  have HX : Hid (∀ k, x k = 0) := fun k => by rw [hx]
  have HY : Hid (∀ k, y k = 0) := fun k => by rw [hy]
  clear hx hy
  have hcm1 : Conds w1 B n0 0 R x y := conds_made hown1 R x y
  have hbel1 : Below B w w1 := (Below.refl _ _).grown hgrow1 (by rw [HB.out]; exact Nat.le_refl _) (fun k h => by cases h)
  clear hown1 hgrow1
  go_loopw [11] (fun t wr => ∃ k : Nat, k ≤ n0 ∧ t = .int .i64 k ∧ Conds wr B n0 k R x y ∧ Below B w wr) (fun t _ => n0 - (intOf t).toNat)
  case atStart => exact ⟨0, Nat.zero_le _, rfl, hcm1, hbel1⟩
  case round =>
    clear hcm1 hbel1
    obtain ⟨k, hk, rfl, hcm, hbel⟩ := hrel
    by_cases hlt : k < n0
    · obtain ⟨g0, o0, ha0, hcc⟩ := hC (by omega)
      subst ha0
      obtain ⟨q0, q1, q2, q3, q4⟩ := hcc k hlt
      have hlt0 : g0 < B := by rw [HB.out]; exact World.block_lt_of_cell? _ _ q0
      have r0 := (hbel.cell (p := ⟨g0, o0 + k * 3, none⟩) hlt0).trans q0
      have r1 := (hbel.cell (p := ⟨g0, o0 + k * 3 + 1, none⟩) hlt0).trans q1
      have r2 := (hbel.cell (p := ⟨g0, o0 + k * 3 + 2, none⟩) hlt0).trans q2
      obtain ⟨⟨v0, z0⟩, f0⟩ := hcm.old (k * 3) (by omega)
      obtain ⟨⟨v1, z1⟩, f1⟩ := hcm.old (k * 3 + 1) (by omega)
      obtain ⟨⟨v2, z2⟩, f2⟩ := hcm.old (k * 3 + 2) (by omega)
      clear hcc q0 q1 q2
      have E1 : Hid ((0 : Int) = (x k : Int)) := by rw [HX.out]; rfl
      have E2 : Hid ((0 : Int) = (y k : Int)) := by rw [HY.out]; rfl
      go_wp2
      go_roundw
      case rel => exact ⟨k + 1, by omega, by go_num, hcm.store hlt _ _ E1.out E2.out, ((hbel.setCell (Nat.le_refl _) _).setCell (Nat.le_refl _) _).setCell (Nat.le_refl _) _⟩
      case measure => simp [intOf]; omega
    · obtain rfl : k = n0 := by omega
      clear hlt hk
      have HXY : Hid (∀ j, j < k → x j ≠ y j → x j < 0 ∧ y j < 0) := fun j _ h => by
        rw [HX.out, HY.out] at h
        exact absurd rfl h
      clear HX HY hC
      obtain ⟨D, hD⟩ : ∃ D, D = wr.heap.size := ⟨_, rfl⟩
      have HD : Hid (D = wr.heap.size) := hD
      have hBD : B < D := by rw [hD]; exact hcm.lt
      clear hD
      obtain ⟨src, hsrc, hsize, hone, hall⟩ := hcm.row
      have HA : Hid _ := hall
      have HO : Hid _ := hone
      clear hone hall
      go_wp2_with (first
        | (at_make; (refine wpList_make_full _ rfl (.tmp 72) (.tmp 72) 24 rfl wr.heap.size 28 i0 (.agg #[.string ⟨#[]⟩, .int .i64 0, .int .i64 0]) 3 Yba.underlying24 hi hi0 hi1 .i64 .i64 _ _ k rfl rfl rfl rfl (by rw [hi2]; omega) (by unfold maxLen; omega) (Nat.le_refl _) ?_); rw [← HD.out]; intro w2 hown2 hgrow2; have hbel2 : Below D wr w2 := (Below.refl _ _).grown hgrow2 (by rw [HD.out]; exact Nat.le_refl _) (fun k h => by cases h); obtain ⟨cur2, hcg2, hcs2, _⟩ := conds_made hown2 R x y; have hsrc2 := (hbel2.block B hBD).trans hsrc)
        | (refine wpList_copy_whole (by rfl) (.tmp 74) (.tmp 75) 24 24 (by rfl) 28 3 Yba.underlying24 size28 D k k B k (by rfl) (by rfl) cur2 src 28 28 hcg2 hsrc2 hcs2 hsize HO.out ?_; intro w3 hg3 hbel3; have hbw3 : Below B w w3 := (hbel.trans (hbel2.mono (Nat.le_of_lt hBD))).trans (hbel3.mono (Nat.le_of_lt hBD))))
      have hcB3 : Conds w3 B k k R x y := (hcm.below hbel2 hBD).below hbel3 hBD
      have hcD3 : Conds w3 D k k R x y := HA.out w3 D hg3
      have hD3 : D < w3.heap.size := lt_of_block hg3
      clear hbel2 hbel3 hg3 hcg2 hsrc2 hsrc hcs2 hsize hown2 hgrow2 hcm HA HO hbel
      obtain ⟨M, hM⟩ : ∃ M, M = w3.heap.size := ⟨_, rfl⟩
      obtain ⟨w6, hw6⟩ : ∃ w6, w6 = ((w3.alloc (Obj.cells #[Value.string { data := #[] }, Value.slice none 0 0, Value.string { data := #[] }, Value.slice (some { block := B, off := 0 }) k k, Value.slice none 0 0] 33)).alloc
        (Obj.cells #[Value.pointer (some { block := w3.heap.size, off := 0 }), Value.pointer (some { block := w3.heap.size, off := 0 }), Value.int IntKind.i64 (-1), Value.slice none 0 0, Value.slice none 0 0, Value.slice none 0 0, Value.slice none 0 0, Value.slice none 0 0, Value.slice none 0 0, Value.pointer none, Value.map none, Value.slice none 0 0, Value.slice none 0 0, Value.slice none 0 0, Value.bool false, Value.slice none 0 0, Value.bool false] 41)) := ⟨_, rfl⟩
      rw [← hw6, ← hM]
      have hb36 : Below M w3 w6 := by
        rw [hw6, hM]
        exact ((Below.refl _ _).alloc (Nat.le_refl _) _).alloc (by simp) _
      have hp6 : w6.cell? ⟨M + 1, 0, none⟩ = some (.pointer (some ⟨M, 0, none⟩)) := by rw [hw6, hM]; simp
      have hm6 : w6.cell? ⟨M, 3, none⟩ = some (.slice (some ⟨B, 0, none⟩) k k) := by rw [hw6, hM]; simp
      have hs6 : M + 1 < w6.heap.size := by rw [hw6, hM]; simp
      clear hw6
      have hEM : D < M := by rw [hM]; exact hD3
      clear hM hD3
      have hcB6 : Conds w6 B k k R x y := hcB3.below hb36 (by omega)
      have hcD6 : Conds w6 D k k R x y := hcD3.below hb36 (by omega)
      have hbw6 : Below B w w6 := hbw3.trans (hb36.mono (by omega))
      have hb6 : Bools w6 none 0 b := fun h => absurd h (Nat.lt_irrefl _)
      clear hcB3 hcD3 hbw3 hb36
      refine (narrowing (M + 1) M B k R x y i none 0 0 b col w6 hn0 (by omega) hp6 hm6 hcB6 hb6 HXY.out).mono ?_
      rintro e w7 ⟨v, rfl, hfirst, hb7⟩
      have hcB7 : Conds w7 B k k R x y := hcB6.below hb7 (by omega)
      have hcD7 : Conds w7 D k k R x y := hcD6.below hb7 (by omega)
      have hbE7 : Bools w7 none 0 b := fun h => absurd h (Nat.lt_irrefl _)
      have hp7 : w7.cell? ⟨M + 1, 0, none⟩ = some (.pointer (some ⟨M, 0, none⟩)) := (hb7.cell (p := ⟨M + 1, 0, none⟩) hs6).trans hp6
      have hm7 : w7.cell? ⟨M, 3, none⟩ = some (.slice (some ⟨B, 0, none⟩) k k) := (hb7.cell (p := ⟨M, 3, none⟩) (by show M < _; omega)).trans hm6
      have hbw7 : Below B w w7 := hbw6.trans (hb7.mono (by omega))
      have hbw7sz : B ≤ w7.heap.size := by have := hcB7.lt; omega
      clear hcB6 hcD6 hb6 hp6 hm6 hbw6 hb7
      go_wp2
      refine wp_loop_rounds 1 ?_
      rw [rounds_succ]
      go_wp2
      go_loopw [20] (fun t wq => ∃ m d : Nat, m ≤ k ∧ t = .int .i64 m ∧ wq = w7.drewN d) (fun t _ => k - (intOf t).toNat)
      case atStart => exact ⟨0, 0, Nat.zero_le _, rfl, rfl⟩
      case round =>
        obtain ⟨m3, d3, hm3, rfl, rfl⟩ := hrel
        by_cases hlt3 : m3 < k
        · obtain ⟨s0, s1, s2⟩ := hcB7.cells m3 hlt3
          obtain ⟨t0, t1, t2⟩ := hcD7.cells m3 hlt3
          go_wp2
          go_quiet (fail)
          go_wp2
          go_roundw
          case rel => exact ⟨m3 + 1, d3 + nq, by omega, by go_num, by simp⟩
          case measure => simp [intOf]; omega
        · clear hm3
          rcases hfirst with ⟨k0, hk0, hyes, hnone, hv⟩ | ⟨hnone, hv⟩
          · subst hv
            have HY : Hid (hit (x k0) (y k0) i col b = true) := hyes
            have HN0 : Hid (∀ j, j < k0 → hit (x j) (y j) i col b = false) := hnone
            clear hyes hnone
            go_wp2
            go_loopw [21, 22] (fun z t wq => ∃ m : Nat, m ≤ k ∧ z = .int .i64 (-1) ∧ t = .int .i64 m ∧ Hid (∀ j, j < m → hit (x j) (y j) i col b = false) ∧ Below w7.heap.size w7 wq) (fun _ t _ => k - (intOf t).toNat)
            case atStart => exact ⟨0, Nat.zero_le _, rfl, rfl, fun j hj => absurd hj (Nat.not_lt_zero _), below_drewN (Below.refl _ _) _⟩
            case round =>
              obtain ⟨m, hm, rfl, rfl, HN, hbq⟩ := hrel
              by_cases hlt4 : m < k
              · obtain ⟨t0, t1, t2⟩ := (hcD7.below hbq hcD7.lt).cells m hlt4
                have hbEq := hbE7.below hbq (Nat.le_refl _)
                go_wp2_with fail
                refine (wants (R m) (x m) (y m) i col none 0 0 b _ (by omega) hbEq (fun h => (HXY.out m hlt4 h).1) (fun h => (HXY.out m hlt4 h).2)).mono ?_
                rintro e w8 ⟨rfl, hb8⟩
                have hbq8 := hbq.trans (hb8.mono hbq.size)
                clear hb8 hbEq t0 t1 t2
                cases hh : hit (x m) (y m) i col b
                · have HH : Hid (hit (x m) (y m) i col b = false) := hh
                  clear hh
                  go_wp2
                  go_roundw
                  case rel => exact ⟨m + 1, by omega, rfl, by go_num, none_succ HN.out HH.out, hbq8⟩
                  case measure => simp [intOf]; omega
                · obtain rfl : m = k0 := first_one HN.out hh HN0.out HY.out
                  clear hh
                  go_wp2
                  go_ret
                  exact ⟨rfl, hbw7.trans (hbq8.mono hbw7sz)⟩
              · exfalso
                have := HN.out k0 (by omega)
                rw [HY.out] at this
                cases this
          · subst hv
            have HN0 : Hid (∀ j, j < k → hit (x j) (y j) i col b = false) := hnone
            clear hnone
            go_wp2
            go_loopw [21, 22] (fun z t wq => ∃ m : Nat, m ≤ k ∧ z = .int .i64 (-1) ∧ t = .int .i64 m ∧ Below w7.heap.size w7 wq) (fun _ t _ => k - (intOf t).toNat)
            case atStart => exact ⟨0, Nat.zero_le _, rfl, rfl, below_drewN (Below.refl _ _) _⟩
            case round =>
              obtain ⟨m, hm, rfl, rfl, hbq⟩ := hrel
              by_cases hlt4 : m < k
              · obtain ⟨t0, t1, t2⟩ := (hcD7.below hbq hcD7.lt).cells m hlt4
                have hbEq := hbE7.below hbq (Nat.le_refl _)
                go_wp2_with fail
                refine (wants (R m) (x m) (y m) i col none 0 0 b _ (by omega) hbEq (fun h => (HXY.out m hlt4 h).1) (fun h => (HXY.out m hlt4 h).2)).mono ?_
                rintro e w8 ⟨rfl, hb8⟩
                have hbq8 := hbq.trans (hb8.mono hbq.size)
                clear hb8 hbEq t0 t1 t2
                rw [HN0.out m hlt4]
                go_wp2
                go_roundw
                case rel => exact ⟨m + 1, by omega, rfl, by go_num, hbq8⟩
                case measure => simp [intOf]; omega
              · go_wp2
                go_ret
                exact ⟨rfl, hbw7.trans (hbq.mono hbw7sz)⟩
end Go.Proofs.Ybulkdqra.lawB
