/- The walk of 'safety.LawS5876BWhole' (function 3) where bound is not nil. -/
import Derived.Test.YbulkdqraCopy
import Derived.Lib.Builder
namespace Go.Proofs.Ybulkdqra.lawB
open Go.ChangeShapes Go.WideShapes Go.ChangeAt Go.RowKit

/-- The conditions that came in. -/
def CondsIn (w : World) (a : Option Addr) (n : Nat) (R : Nat → ByteArray) (X Y : Nat → Nat) : Prop :=
  0 < n → ∃ g off, a = some ⟨g, off, none⟩ ∧ ∀ k, k < n →
    w.cell? ⟨g, off + k * 3, none⟩ = some (.string (R k)) ∧ w.cell? ⟨g, off + k * 3 + 1, none⟩ = some (.int .u8 (X k : Int)) ∧ w.cell? ⟨g, off + k * 3 + 2, none⟩ = some (.int .u8 (Y k : Int)) ∧ X k ≤ 255 ∧ Y k ≤ 255

theorem info28 : (Yba.prog.info? 28).map (fun i => (i.zero, i.size, i.bytes)) = some (some (.agg #[.string ⟨#[]⟩, .int .i64 0, .int .i64 0]), 3, 32) := by kernel_rfl
theorem info4 : (Yba.prog.info? 4).map (fun i => (i.zero, i.size, i.bytes)) = some (some (.bool false), 1, 1) := by kernel_rfl
theorem size28 : (Yba.prog.info? 28).map (·.size) = some 3 := by kernel_rfl
theorem size4 : (Yba.prog.info? 4).map (·.size) = some 1 := by kernel_rfl

/-- An operand, brought into the range of bound. -/
def md (n v : Nat) : Nat := if n = 0 then 0 else v % n

theorem md_pos {n : Nat} (h : 0 < n) (v : Nat) : ((v : Int) % (n : Int)) = ((md n v : Nat) : Int) := by
  simp [md, show n ≠ 0 by omega]
theorem md_lt {n v u : Nat} (h : md n v ≠ md n u) : md n v < n ∧ md n u < n := by
  unfold md at h ⊢
  split at h
  · exact absurd rfl h
  · rename_i hn
    rw [if_neg hn, if_neg hn]
    exact ⟨Nat.mod_lt _ (by omega), Nat.mod_lt _ (by omega)⟩

theorem bools_src {w w' : World} {a : Option Addr} {n C B : Nat} {b : Nat → Bool} (h : Bools w a n b) (hb : Below B w w') (hB : B = w.heap.size) :
    0 < ((List.range n).map fun j => Value.bool (b j)).length → (some ⟨C, 0, none⟩ : Option Addr) = some ⟨C, 0, none⟩ ∧ ∃ ad, a = some ad ∧ ∀ j v, ((List.range n).map fun j => Value.bool (b j))[j]? = some v → w'.cell? (ad.add j) = some v := by
  intro hp
  obtain ⟨g, off, rfl, hcell⟩ := h (by simpa using hp)
  refine ⟨rfl, _, rfl, fun j v hj => ?_⟩
  have hjn : j < n := by
    have := (List.getElem?_eq_some_iff.1 hj).1
    simpa using this
  have hcj := hcell j hjn
  rw [Addr.add_lit, hb.cell (p := ⟨g, off + j, none⟩) (by rw [hB]; exact World.block_lt_of_cell? _ _ hcj), hcj, ← hj]
  simp [hjn]

theorem bools_own {w : World} {C n : Nat} {cur : List Value} {b : Nat → Bool} (hcur : cur.length = n) (hg : w.heap[C]? = some (.cells (splice cur 0 ((List.range n).map fun j => Value.bool (b j))).toArray 4 (0, 0))) :
    Bools w (some ⟨C, 0, none⟩) n b := by
  have e : splice cur 0 ((List.range n).map fun j => Value.bool (b j)) = (List.range n).map fun j => Value.bool (b j) := by simp [splice, hcur]
  rw [e] at hg
  refine fun _ => ⟨C, 0, rfl, fun i hi => ?_⟩
  rw [cell_of_row w C (0 + i) _ 4 (0, 0) hg]
  simp [hi]

theorem le_of_sizes {B E p q : Nat} (h1 : B = p) (h2 : E = q) (h : p ≤ q) : B ≤ E := by omega

theorem first_one {h : Nat → Bool} {m k : Nat} (h1 : ∀ j, j < m → h j = false) (h2 : h m = true) (h3 : ∀ j, j < k → h j = false) (h4 : h k = true) : m = k := by
  rcases Nat.lt_trichotomy m k with a | a | a
  · rw [h3 m a] at h2; cases h2
  · exact a
  · rw [h1 k a] at h4; cases h4

theorem bools_one (n : Nat) (b : Nat → Bool) : ∀ v ∈ ((List.range n).map fun j => Value.bool (b j)), v.oneCell' = true := by
  intro v hv
  obtain ⟨_, _, rfl⟩ := List.mem_map.1 hv
  rfl

theorem made_block {w : World} {base g n : Nat} {e : TypeId} {xs : List Value} (h : w.ownsRow base e 1 (.slice (some ⟨g, 0, none⟩) n n) n xs) : ∃ cur : List Value, cur.length = n ∧ w.heap[g]? = some (.cells cur.toArray e (0, 0)) := by
  rcases h.2 with ⟨hn, _⟩ | ⟨g', cap, cur, hv, hbg, hgg, hle, _, hsz, _⟩
  · simp at hn
  · simp at hv
    obtain ⟨rfl, rfl⟩ := hv
    exact ⟨cur.toList, by simpa using hsz, by simpa using hgg⟩

set_option maxRecDepth 100000 in
set_option maxHeartbeats 4000000 in
theorem law_some (a0 : Option Addr) (n0 c0 : Nat) (R : Nat → ByteArray) (X Y : Nat → Nat) (a1 : Addr) (n c1 : Nat) (b : Nat → Bool) (i : Int) (col : Bool) (w : World) (hn0 : n0 ≤ 1048576) (hn : n ≤ 1048576)
    (hC : CondsIn w a0 n0 R X Y) (hb : Bools w (some a1) n b) :
    Calls Yba.prog 3 #[.slice a0 n0 c0, .slice (some a1) n c1, .int .i64 i, .bool col] w fun e w' => e = .returned (.bool true) ∧ Below w.heap.size w w' := by
  obtain ⟨i0, hi, hi0, hi1, hi2⟩ := info_parts info28
  obtain ⟨j0, hj, hj0, hj1, hj2⟩ := info_parts info4
  have n23 := fun (a : Option Addr) (l c : Nat) (w : World) => run_neq_slice_nil_any (P := Yba.prog) w 23 4 a l c 0 0 Yba.underlying23
  obtain ⟨j33, hj33⟩ := Option.isSome_iff_exists.1 (show (Yba.prog.info? 33).isSome = true by kernel_rfl)
  have n29 := fun (a : Addr) (w : World) => Lib.run_neq_ptr_same (P := Yba.prog) w (tp := 29) (te := 33) a Yba.underlying29 hj33
  have e42 := fun (a : Addr) (w : World) => run_eql_ptr_same (P := Yba.prog) w (tp := 42) (te := 28) a Yba.underlying42 hi
  obtain ⟨B, hB⟩ : ∃ B, B = w.heap.size := ⟨_, rfl⟩
  rw [← hB]
  have HB : Hid (B = w.heap.size) := hB
  clear hB
  go_enter Yba.func3, Yba.ntmps3
  go_wp2_with (at_make; (refine wpList_make_full _ rfl (.tmp 34) (.tmp 34) 24 rfl w.heap.size 28 i0 (.agg #[.string ⟨#[]⟩, .int .i64 0, .int .i64 0]) 3 Yba.underlying24 hi hi0 hi1 .i64 .i64 _ _ n0 rfl rfl rfl rfl (by rw [hi2]; omega) (by unfold maxLen; omega) (Nat.le_refl _) ?_); rw [← HB.out]; intro w1 hown1 hgrow1)
  obtain ⟨x, hx⟩ : ∃ x : Nat → Nat, x = fun k => md n (X k) := ⟨_, rfl⟩
  obtain ⟨y, hy⟩ : ∃ y : Nat → Nat, y = fun k => md n (Y k) := ⟨_, rfl⟩
  have HX : Hid (∀ k, x k = md n (X k)) := fun k => by rw [hx]
  have HY : Hid (∀ k, y k = md n (Y k)) := fun k => by rw [hy]
  clear hx hy
  have hcm1 : Conds w1 B n0 0 R x y := conds_made hown1 R x y
  have hbel1 : Below B w w1 := (Below.refl _ _).grown hgrow1 (by rw [HB.out]; exact Nat.le_refl _) (fun k h => by cases h)
  clear hown1 hgrow1
  go_loopw [11] (fun t wr => ∃ k : Nat, k ≤ n0 ∧ t = .int .i64 k ∧ Conds wr B n0 k R x y ∧ Below B w wr) (fun t _ => n0 - (intOf t).toNat)
  case atStart => exact ⟨0, Nat.zero_le _, rfl, hcm1, hbel1⟩
  case round =>
    clear hcm1 hbel1
    obtain ⟨k, hk, rfl, hcm, hbel⟩ := hrel
    by_cases hlt : k < n0
    · obtain ⟨g0, o0, ha0, hcc⟩ := hC (by omega)
      subst ha0
      obtain ⟨q0, q1, q2, q3, q4⟩ := hcc k hlt
      have hlt0 : g0 < B := by rw [HB.out]; exact World.block_lt_of_cell? _ _ q0
      have r0 := (hbel.cell (p := ⟨g0, o0 + k * 3, none⟩) hlt0).trans q0
      have r1 := (hbel.cell (p := ⟨g0, o0 + k * 3 + 1, none⟩) hlt0).trans q1
      have r2 := (hbel.cell (p := ⟨g0, o0 + k * 3 + 2, none⟩) hlt0).trans q2
      obtain ⟨⟨v0, z0⟩, f0⟩ := hcm.old (k * 3) (by omega)
      obtain ⟨⟨v1, z1⟩, f1⟩ := hcm.old (k * 3 + 1) (by omega)
      obtain ⟨⟨v2, z2⟩, f2⟩ := hcm.old (k * 3 + 2) (by omega)
      clear hcc q0 q1 q2
      by_cases hn1 : 0 < n
      · go_wp2
        go_roundw
        case rel => exact ⟨k + 1, by omega, by go_num, hcm.store hlt _ _ (by rw [HX.out]; exact md_pos hn1 _) (by rw [HY.out]; exact md_pos hn1 _), ((hbel.setCell (Nat.le_refl _) _).setCell (Nat.le_refl _) _).setCell (Nat.le_refl _) _⟩
        case measure => simp [intOf]; omega
      · have hz : n = 0 := by omega
        have e1 : (0 : Int) = (x k : Int) := by rw [HX.out, md, if_pos hz]; rfl
        have e2 : (0 : Int) = (y k : Int) := by rw [HY.out, md, if_pos hz]; rfl
        have E1 : Hid _ := e1
        have E2 : Hid _ := e2
        clear e1 e2 hz
        go_wp2
        go_roundw
        case rel => exact ⟨k + 1, by omega, by go_num, hcm.store hlt _ _ E1.out E2.out, ((hbel.setCell (Nat.le_refl _) _).setCell (Nat.le_refl _) _).setCell (Nat.le_refl _) _⟩
        case measure => simp [intOf]; omega
    · obtain rfl : k = n0 := by omega
      clear hlt hk
      have hxy : ∀ j, j < k → x j ≠ y j → x j < n ∧ y j < n := fun j _ h => by
        rw [HX.out, HY.out] at h ⊢
        exact md_lt h
      have HXY : Hid (∀ j, j < k → x j ≠ y j → x j < n ∧ y j < n) := hxy
      clear hxy HX HY hC
      obtain ⟨D, hD⟩ : ∃ D, D = wr.heap.size := ⟨_, rfl⟩
      have HD : Hid (D = wr.heap.size) := hD
      have hBD : B < D := by rw [hD]; exact hcm.lt
      clear hD
      obtain ⟨src, hsrc, hsize, hone, hall⟩ := hcm.row
      have HA : Hid _ := hall
      have HO : Hid _ := hone
      clear hone hall
      go_wp2_with (first
        | (at_make; (refine wpList_make_full _ rfl (.tmp 72) (.tmp 72) 24 rfl wr.heap.size 28 i0 (.agg #[.string ⟨#[]⟩, .int .i64 0, .int .i64 0]) 3 Yba.underlying24 hi hi0 hi1 .i64 .i64 _ _ k rfl rfl rfl rfl (by rw [hi2]; omega) (by unfold maxLen; omega) (Nat.le_refl _) ?_); rw [← HD.out]; intro w2 hown2 hgrow2; have hbel2 : Below D wr w2 := (Below.refl _ _).grown hgrow2 (by rw [HD.out]; exact Nat.le_refl _) (fun k h => by cases h); obtain ⟨cur2, hcg2, hcs2, _⟩ := conds_made hown2 R x y; have hsrc2 := (hbel2.block B hBD).trans hsrc)
        | (refine wpList_copy_whole (by rfl) (.tmp 74) (.tmp 75) 24 24 (by rfl) 28 3 Yba.underlying24 size28 D k k B k (by rfl) (by rfl) cur2 src 28 28 hcg2 hsrc2 hcs2 hsize HO.out ?_; intro w3 hg3 hbel3; have hbw3 : Below B w w3 := (hbel.trans (hbel2.mono (Nat.le_of_lt hBD))).trans (hbel3.mono (Nat.le_of_lt hBD)); obtain ⟨E, hE⟩ : ∃ E, E = w3.heap.size := ⟨_, rfl⟩; have HE : Hid (E = w3.heap.size) := hE; clear hE)
        | (at_make; (refine wpList_make_full _ rfl (.tmp 79) (.tmp 79) 23 rfl w3.heap.size 4 j0 (.bool false) 1 Yba.underlying23 hj hj0 hj1 .i64 .i64 _ _ n rfl rfl rfl rfl (by rw [hj2]; omega) (by unfold maxLen; omega) (Nat.le_refl _) ?_); rw [← HE.out]; intro w4 hown4 hgrow4; have hbel4 : Below E w3 w4 := (Below.refl _ _).grown hgrow4 (Nat.le_of_eq HE.out) (fun k h => by cases h); have hBE : B ≤ E := le_of_sizes HB.out HE.out hbw3.size; have hbw4 : Below B w w4 := hbw3.trans (hbel4.mono hBE); obtain ⟨cur4, hcl4, hcg4⟩ := made_block hown4)
        | (refine wpList_copy_splice (by rfl) (.tmp 81) (.tmp 82) 23 23 (by rfl) 4 Yba.underlying23 size4 (some ⟨E, 0, none⟩) (some a1) n n n c1 (by rfl) (by rfl) E 0 cur4 4 hcg4 ((List.range n).map fun j => Value.bool (b j)) (by simp) (bools_src hb hbw4 HB.out) (by simp [hcl4]) (bools_one n b) E w4 (Below.refl _ _) (Nat.le_refl _) ?_; intro w5 hg5 hbel5))
      have hcB3 : Conds w3 B k k R x y := (hcm.below hbel2 hBD).below hbel3 hBD
      have hDE : D < E := by rw [HE.out]; exact lt_of_block hg3
      have hBE' : B < E := Nat.lt_trans hBD hDE
      have hcB5 : Conds w5 B k k R x y := (hcB3.below hbel4 hBE').below hbel5 hBE'
      have hcD5 : Conds w5 D k k R x y := ((HA.out w3 D hg3).below hbel4 hDE).below hbel5 hDE
      have hbE5 : Bools w5 (some ⟨E, 0, none⟩) n b := bools_own hcl4 hg5.out
      have hbw5 : Below B w w5 := hbw4.trans (hbel5.mono hBE)
      have hE5 : E < w5.heap.size := lt_of_block hg5.out
      clear hcB3 hbel2 hbel3 hbel4 hbel5 hbw3 hbw4 hg3 hg5 hcg2 hcg4 hsrc2 hsrc hcl4 hcs2 hsize hown2 hgrow2 hown4 hgrow4 hcm HA HO hbel
      obtain ⟨M, hM⟩ : ∃ M, M = w5.heap.size := ⟨_, rfl⟩
      obtain ⟨w6, hw6⟩ : ∃ w6, w6 = ((w5.alloc (Obj.cells #[Value.string { data := #[] }, Value.slice none 0 0, Value.string { data := #[] }, Value.slice (some { block := B, off := 0 }) k k, Value.slice none 0 0] 33)).alloc
        (Obj.cells #[Value.pointer (some { block := w5.heap.size, off := 0 }), Value.pointer (some { block := w5.heap.size, off := 0 }), Value.int IntKind.i64 (-1), Value.slice none 0 0, Value.slice none 0 0, Value.slice none 0 0, Value.slice none 0 0, Value.slice none 0 0, Value.slice none 0 0, Value.pointer none, Value.map none, Value.slice none 0 0, Value.slice none 0 0, Value.slice none 0 0, Value.bool false, Value.slice none 0 0, Value.bool false] 41)) := ⟨_, rfl⟩
      rw [← hw6, ← hM]
      have hb56 : Below M w5 w6 := by
        rw [hw6, hM]
        exact ((Below.refl _ _).alloc (Nat.le_refl _) _).alloc (by simp) _
      have hp6 : w6.cell? ⟨M + 1, 0, none⟩ = some (.pointer (some ⟨M, 0, none⟩)) := by rw [hw6, hM]; simp
      have hm6 : w6.cell? ⟨M, 3, none⟩ = some (.slice (some ⟨B, 0, none⟩) k k) := by rw [hw6, hM]; simp
      have hs6 : M + 1 < w6.heap.size := by rw [hw6, hM]; simp
      clear hw6
      have hEM : E < M := by rw [hM]; exact hE5
      clear hM hE5
      have hcB6 : Conds w6 B k k R x y := hcB5.below hb56 (by omega)
      have hcD6 : Conds w6 D k k R x y := hcD5.below hb56 (by omega)
      have hbw6 : Below B w w6 := hbw5.trans (hb56.mono (by omega))
      have hb6 : Bools w6 (some a1) n b := hb.below hbw6 (by rw [HB.out]; exact Nat.le_refl _)
      have hbE6 : Bools w6 (some ⟨E, 0, none⟩) n b := by
        intro hp
        obtain ⟨g, off, ha, hcc⟩ := hbE5 hp
        simp only [Option.some.injEq, Addr.mk.injEq, and_true] at ha
        obtain ⟨rfl, rfl⟩ := ha
        exact ⟨_, _, rfl, fun i hi => (hb56.cell (p := ⟨E, 0 + i, none⟩) hEM).trans (hcc i hi)⟩
      clear hcB5 hcD5 hbE5 hbw5 hb56 hb
      refine (narrowing (M + 1) M B k R x y i (some a1) n c1 b col w6 hn0 hn hp6 hm6 hcB6 hb6 HXY.out).mono ?_
      rintro e w7 ⟨v, rfl, hfirst, hb7⟩
      have hcB7 : Conds w7 B k k R x y := hcB6.below hb7 (by omega)
      have hcD7 : Conds w7 D k k R x y := hcD6.below hb7 (by omega)
      have hb7' : Bools w7 (some a1) n b := hb6.below hb7 (Nat.le_refl _)
      have hbE7 : Bools w7 (some ⟨E, 0, none⟩) n b := hbE6.below hb7 (Nat.le_refl _)
      have hp7 : w7.cell? ⟨M + 1, 0, none⟩ = some (.pointer (some ⟨M, 0, none⟩)) := (hb7.cell (p := ⟨M + 1, 0, none⟩) hs6).trans hp6
      have hm7 : w7.cell? ⟨M, 3, none⟩ = some (.slice (some ⟨B, 0, none⟩) k k) := (hb7.cell (p := ⟨M, 3, none⟩) (by show M < _; omega)).trans hm6
      have hbw7 : Below B w w7 := hbw6.trans (hb7.mono (by omega))
      have hbw7sz : B ≤ w7.heap.size := by have := hcB7.lt; omega
      clear hcB6 hcD6 hb6 hbE6 hp6 hm6 hbw6 hb7
      go_wp2
      go_loopw [19] (fun t wq => ∃ m d : Nat, m ≤ n ∧ t = .int .i64 m ∧ wq = w7.drewN d) (fun t _ => n - (intOf t).toNat)
      case atStart => exact ⟨0, 0, Nat.zero_le _, rfl, rfl⟩
      case round =>
        obtain ⟨m, d, hm, rfl, rfl⟩ := hrel
        by_cases hlt : m < n
        · obtain ⟨g1, o1, ha1, hcc1⟩ := hb7' (by omega)
          simp only [Option.some.injEq] at ha1
          subst ha1
          have s1 := hcc1 m hlt
          obtain ⟨g2, o2, ha2, hcc2⟩ := hbE7 (by omega)
          simp only [Option.some.injEq, Addr.mk.injEq, and_true] at ha2
          obtain ⟨rfl, rfl⟩ := ha2
          have s2 := hcc2 m hlt
          rw [Nat.zero_add] at s2
          clear hcc1 hcc2
          go_wp2
          go_quiet (fail)
          go_wp2
          go_roundw
          case rel => exact ⟨m + 1, d + nq, by omega, by go_num, by simp⟩
          case measure => simp [intOf]; omega
        · clear hm
          go_wp2
          go_loopw [20] (fun t wq => ∃ m d : Nat, m ≤ k ∧ t = .int .i64 m ∧ wq = w7.drewN d) (fun t _ => k - (intOf t).toNat)
          case atStart => exact ⟨0, d, Nat.zero_le _, rfl, rfl⟩
          case round =>
            obtain ⟨m3, d3, hm3, rfl, rfl⟩ := hrel
            by_cases hlt3 : m3 < k
            · obtain ⟨s0, s1, s2⟩ := hcB7.cells m3 hlt3
              obtain ⟨t0, t1, t2⟩ := hcD7.cells m3 hlt3
              go_wp2
              go_quiet (fail)
              go_wp2
              go_roundw
              case rel => exact ⟨m3 + 1, d3 + nq, by omega, by go_num, by simp⟩
              case measure => simp [intOf]; omega
            · clear hm3 hlt
              rcases hfirst with ⟨k0, hk0, hyes, hnone, hv⟩ | ⟨hnone, hv⟩
              · subst hv
                have HY : Hid (hit (x k0) (y k0) i col b = true) := hyes
                have HN0 : Hid (∀ j, j < k0 → hit (x j) (y j) i col b = false) := hnone
                clear hyes hnone
                go_wp2
                go_loopw [21, 22] (fun z t wq => ∃ m : Nat, m ≤ k ∧ z = .int .i64 (-1) ∧ t = .int .i64 m ∧ Hid (∀ j, j < m → hit (x j) (y j) i col b = false) ∧ Below w7.heap.size w7 wq) (fun _ t _ => k - (intOf t).toNat)
                case atStart => exact ⟨0, Nat.zero_le _, rfl, rfl, fun j hj => absurd hj (Nat.not_lt_zero _), below_drewN (Below.refl _ _) _⟩
                case round =>
                  obtain ⟨m, hm, rfl, rfl, HN, hbq⟩ := hrel
                  by_cases hlt4 : m < k
                  · obtain ⟨t0, t1, t2⟩ := (hcD7.below hbq hcD7.lt).cells m hlt4
                    have hbEq := hbE7.below hbq (Nat.le_refl _)
                    go_wp2_with fail
                    refine (wants (R m) (x m) (y m) i col (some ⟨E, 0, none⟩) n n b _ hn hbEq (fun h => (HXY.out m hlt4 h).1) (fun h => (HXY.out m hlt4 h).2)).mono ?_
                    rintro e w8 ⟨rfl, hb8⟩
                    have hbq8 := hbq.trans (hb8.mono hbq.size)
                    clear hb8 hbEq t0 t1 t2
                    cases hh : hit (x m) (y m) i col b
                    · have HH : Hid (hit (x m) (y m) i col b = false) := hh
                      clear hh
                      go_wp2
                      go_roundw
                      case rel => exact ⟨m + 1, by omega, rfl, by go_num, none_succ HN.out HH.out, hbq8⟩
                      case measure => simp [intOf]; omega
                    · obtain rfl : m = k0 := first_one HN.out hh HN0.out HY.out
                      clear hh
                      go_wp2
                      go_ret
                      exact ⟨rfl, hbw7.trans (hbq8.mono hbw7sz)⟩
                  · exfalso
                    have := HN.out k0 (by omega)
                    rw [HY.out] at this
                    cases this
              · subst hv
                have HN0 : Hid (∀ j, j < k → hit (x j) (y j) i col b = false) := hnone
                clear hnone
                go_wp2
                go_loopw [21, 22] (fun z t wq => ∃ m : Nat, m ≤ k ∧ z = .int .i64 (-1) ∧ t = .int .i64 m ∧ Below w7.heap.size w7 wq) (fun _ t _ => k - (intOf t).toNat)
                case atStart => exact ⟨0, Nat.zero_le _, rfl, rfl, below_drewN (Below.refl _ _) _⟩
                case round =>
                  obtain ⟨m, hm, rfl, rfl, hbq⟩ := hrel
                  by_cases hlt4 : m < k
                  · obtain ⟨t0, t1, t2⟩ := (hcD7.below hbq hcD7.lt).cells m hlt4
                    have hbEq := hbE7.below hbq (Nat.le_refl _)
                    go_wp2_with fail
                    refine (wants (R m) (x m) (y m) i col (some ⟨E, 0, none⟩) n n b _ hn hbEq (fun h => (HXY.out m hlt4 h).1) (fun h => (HXY.out m hlt4 h).2)).mono ?_
                    rintro e w8 ⟨rfl, hb8⟩
                    have hbq8 := hbq.trans (hb8.mono hbq.size)
                    clear hb8 hbEq t0 t1 t2
                    rw [HN0.out m hlt4]
                    go_wp2
                    go_roundw
                    case rel => exact ⟨m + 1, by omega, rfl, by go_num, hbq8⟩
                    case measure => simp [intOf]; omega
                  · go_wp2
                    go_ret
                    exact ⟨rfl, hbw7.trans (hbq.mono hbw7sz)⟩
end Go.Proofs.Ybulkdqra.lawB
