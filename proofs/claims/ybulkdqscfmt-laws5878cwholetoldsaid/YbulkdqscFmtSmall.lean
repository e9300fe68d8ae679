/- (time.Duration).format (function 10) below a second. -/
import Derived.Test.YbulkdqscFmtFrac
import Derived.Lib.BufferWrite
import Derived.Laws.CopyOwn
namespace Go.Proofs.YbulkdqscFmt.lawC
open Go.ChangeShapes Go.WideShapes Go.ChangeAt Go.RowKit

/-- fmtInt's contract over integers. -/
theorem int_call (g n d : Nat) (V : Int) (w : World) (hn : n ≤ 32) (hd : d ≤ n) (hd1 : 1 ≤ d) (hv0 : 0 ≤ V) (hv : V ≤ 9223372036854775808) (hl : V < ((10 ^ d : Nat) : Int)) (hb : Buf w g) :
    Calls Ybaf.prog 12 #[.slice (some ⟨g, 0, none⟩) n 32, .int .u64 V] w (Wrote g n d w) := by
  obtain ⟨u, rfl⟩ := Int.eq_ofNat_of_zero_le hv0
  exact fmt_int g n d u w hn hd hd1 (by omega) (by unfold Lt10; omega) hb

/-- What fmtFrac gives, over integers. -/
def FracdI (g n prec : Nat) (V : Int) (w : World) (e : Ending) (w' : World) : Prop :=
  ∃ (r : Nat) (v : Int), e = .returned (.tuple #[.int .i64 (r : Int), .int .u64 v]) ∧ n ≤ r + prec + 1 ∧ r ≤ n ∧ 0 ≤ v ∧ v * ((10 ^ prec : Nat) : Int) ≤ V ∧ Buf w' g ∧ Below g w w'

theorem frac_call (g n prec : Nat) (V q : Int) (w : World) (hn : n ≤ 32) (hp : prec + 1 ≤ n) (hp9 : prec ≤ 9) (hv0 : 0 ≤ V) (hv : V ≤ 9223372036854775808) (hq : q = (prec : Int)) (hb : Buf w g) :
    Calls Ybaf.prog 11 #[.slice (some ⟨g, 0, none⟩) n 32, .int .u64 V, .int .i64 q] w (FracdI g n prec V w) := by
  obtain ⟨u, rfl⟩ := Int.eq_ofNat_of_zero_le hv0
  subst hq
  refine (fmt_frac g n prec u w hn hp hp9 (by omega) hb).mono ?_
  rintro e w' ⟨r, v, rfl, h1, h2, h3, _, h5, h6⟩
  refine ⟨r, v, rfl, h1, h2, by omega, ?_, h5, h6⟩
  unfold Scaled at h3
  exact_mod_cast h3

theorem slice_to (g r : Nat) (hr : r ≤ 32) (W : World) : (Instr.sliceAt 34 (.pointer (some ⟨g, 0, none⟩)) none (some (.int .i64 (r : Int))) none).run Ybaf.prog W = .ok (.slice (some ⟨g, 0, none⟩) r 32) W := by
  have hlen : Ybaf.prog.arrayLen 34 = 32 := by kernel_rfl
  have h := run_sliceAt_array_h (P := Ybaf.prog) (w := W) (t := 34) (a := ⟨g, 0, none⟩) (by kernel_rfl) .i64 (r : Int) (by omega) (by rw [hlen]; omega)
  have hs : (sizeOf (Ybaf.prog.elem 34)).run Ybaf.prog W = .ok 1 W := by kernel_rfl
  rw [h, hlen, hs]
  simp [slicedAt, Addr.add]

/-- What format gives: an index into the buffer. -/
def Formed (g : Nat) (w : World) (e : Ending) (w' : World) : Prop := ∃ r : Nat, e = .returned (.int .i64 (r : Int)) ∧ r < 32 ∧ Buf w' g ∧ Below g w w'

set_option maxRecDepth 100000 in
set_option maxHeartbeats 1000000 in
theorem format_zero (g : Nat) (w : World) (hb : Buf w g) : Calls Ybaf.prog 10 #[.int .i64 0, .pointer (some ⟨g, 0, none⟩)] w (Formed g w) := by
  obtain ⟨⟨v1, hold1⟩, hfr1⟩ := hb.old 31 (by omega)
  obtain ⟨⟨v0, hold0⟩, hfr0⟩ := hb.old 30 (by omega)
  go_enter Ybaf.func10, Ybaf.ntmps10
  go_wp2
  go_ret
  exact ⟨30, rfl, by omega, (hb.store _ _ (by omega) (by omega)).store _ _ (by omega) (by omega), below_set (below_set (Below.refl _ _) _ _) _ _⟩

set_option maxRecDepth 100000 in
set_option maxHeartbeats 1000000 in
theorem format_nano (g : Nat) (d x V : Int) (w : World) (hd : d < 0) (hx : IntKind.u64.wrap d = x) (hneg : IntKind.u64.wrap (-x) = V) (h1 : 1 ≤ V) (h2 : V < 1000) (h3 : V < 1000000000) (hb : Buf w g) :
    Calls Ybaf.prog 10 #[.int .i64 d, .pointer (some ⟨g, 0, none⟩)] w (Formed g w) := by
  obtain ⟨⟨v1, hold1⟩, hfr1⟩ := hb.old 31 (by omega)
  obtain ⟨⟨v0, hold0⟩, hfr0⟩ := hb.old 30 (by omega)
  have e0 : (V == 0) = false := by simp; omega
  go_enter Ybaf.func10, Ybaf.ntmps10
  go_wp2_with fail
  refine (frac_call g 30 0 V 0 _ (by omega) (by omega) (by omega) (by omega) (by omega) rfl ((hb.store _ _ (by omega) (by omega)).store _ _ (by omega) (by omega))).mono ?_
  rintro e w1 ⟨r, v, rfl, hr1, hr2, hv0, hv1, hb1, hbel1⟩
  simp at hv1
  have hbw1 : Below g w w1 := (below_set (below_set (Below.refl g w) _ _) _ _).trans hbel1
  clear hbel1 hold1 hfr1 hold0 hfr0 hb
  have hsl := slice_to g r (by omega)
  go_wp2_with fail
  refine (int_call g r 3 v _ (by omega) (by omega) (by omega) hv0 (by omega) (by show v < 1000; omega) hb1).mono ?_
  rintro e w2 ⟨r2, rfl, hr3, hr4, hb2, hbel2⟩
  obtain ⟨⟨vo, hold⟩, hfr⟩ := hb2.old (r2 - 1) (by omega)
  have hr5 : 1 ≤ r2 := by omega
  have hbw2 := hbw1.trans hbel2
  clear hsl hbel2 hbw1 hb1
  go_wp2
  go_ret
  exact ⟨r2 - 1, ret_int (by omega), by omega, hb2.store _ _ (by omega) (by omega), below_set hbw2 _ _⟩
set_option maxRecDepth 100000 in
set_option maxHeartbeats 1000000 in
theorem format_milli (g : Nat) (d x V : Int) (w : World) (hd : d < 0) (hx : IntKind.u64.wrap d = x) (hneg : IntKind.u64.wrap (-x) = V) (h1 : 1000000 ≤ V) (h3 : V < 1000000000) (hb : Buf w g) :
    Calls Ybaf.prog 10 #[.int .i64 d, .pointer (some ⟨g, 0, none⟩)] w (Formed g w) := by
  obtain ⟨⟨v1, hold1⟩, hfr1⟩ := hb.old 31 (by omega)
  obtain ⟨⟨v0, hold0⟩, hfr0⟩ := hb.old 30 (by omega)
  have e0 : (V == 0) = false := by simp; omega
  go_enter Ybaf.func10, Ybaf.ntmps10
  go_wp2_with fail
  refine (frac_call g 30 6 V 6 _ (by omega) (by omega) (by omega) (by omega) (by omega) rfl ((hb.store _ _ (by omega) (by omega)).store _ _ (by omega) (by omega))).mono ?_
  rintro e w1 ⟨r, v, rfl, hr1, hr2, hv0, hv1, hb1, hbel1⟩
  have hv2 : v * 1000000 ≤ V := hv1
  clear hv1
  have hbw1 : Below g w w1 := (below_set (below_set (Below.refl g w) _ _) _ _).trans hbel1
  clear hbel1 hold1 hfr1 hold0 hfr0 hb
  have hsl := slice_to g r (by omega)
  go_wp2_with fail
  refine (int_call g r 3 v _ (by omega) (by omega) (by omega) hv0 (by omega) (by show v < 1000; omega) hb1).mono ?_
  rintro e w2 ⟨r2, rfl, hr3, hr4, hb2, hbel2⟩
  obtain ⟨⟨vo, hold⟩, hfr⟩ := hb2.old (r2 - 1) (by omega)
  have hr5 : 1 ≤ r2 := by omega
  have hbw2 := hbw1.trans hbel2
  clear hsl hbel2 hbw1 hb1
  go_wp2
  go_ret
  exact ⟨r2 - 1, ret_int (by omega), by omega, hb2.store _ _ (by omega) (by omega), below_set hbw2 _ _⟩
theorem copy_mu {W : World} {g : Nat} (h : Buf W g) :
    ∃ W2, (∀ ty, (Builtin.copy_ #[37, 9] ty #[.slice (some ⟨g, 29, none⟩) 3 3, .string ⟨#[194, 181]⟩]).run Ybaf.prog W = .ok (goInt 2) W2) ∧ Buf W2 g ∧ Below g W W2 := by
  obtain ⟨l, hl, hg⟩ := h
  refine ⟨_, fun ty => Lib.run_copy_row_string (P := Ybaf.prog) W 37 9 ty 5 g 29 3 3 ⟨#[194, 181]⟩ _ 34 Ybaf.underlying37 (by kernel_rfl) hg (by decide) (by simp [hl]; decide), ?_, below_setRow (Below.refl _ _) (Nat.le_refl _) _⟩
  refine ⟨l.take 29 ++ ([194, 181] ++ l.drop 31), by simp [hl], ?_⟩
  rw [setRow_heap W g _ _ 34 _ hg]
  simp [Lib.byteCells]
  rfl

set_option maxRecDepth 100000 in
set_option maxHeartbeats 1000000 in
theorem format_micro (g : Nat) (d x V : Int) (w : World) (hd : d < 0) (hx : IntKind.u64.wrap d = x) (hneg : IntKind.u64.wrap (-x) = V) (h1 : 1000 ≤ V) (h2 : V < 1000000) (h3 : V < 1000000000) (hb : Buf w g) :
    Calls Ybaf.prog 10 #[.int .i64 d, .pointer (some ⟨g, 0, none⟩)] w (Formed g w) := by
  obtain ⟨⟨v1, hold1⟩, hfr1⟩ := hb.old 31 (by omega)
  have hbs : Buf (w.setCell ⟨g, 31, none⟩ (.int .u8 115)) g := hb.store _ _ (by omega) (by omega)
  obtain ⟨W2, hcp, hb0, hbel0⟩ := copy_mu hbs
  clear hbs
  have e0 : (V == 0) = false := by simp; omega
  go_enter Ybaf.func10, Ybaf.ntmps10
  go_wp2_with fail
  refine (frac_call g 29 3 V 3 _ (by omega) (by omega) (by omega) (by omega) (by omega) rfl hb0).mono ?_
  rintro e w1 ⟨r, v, rfl, hr1, hr2, hv0, hv1, hb1, hbel1⟩
  have hv2 : v * 1000 ≤ V := hv1
  clear hv1
  have hbw1 : Below g w w1 := ((below_set (Below.refl g w) _ _).trans hbel0).trans hbel1
  clear hbel1 hold1 hfr1 hcp hb0 hbel0 hb
  have hsl := slice_to g r (by omega)
  go_wp2_with fail
  refine (int_call g r 3 v _ (by omega) (by omega) (by omega) hv0 (by omega) (by show v < 1000; omega) hb1).mono ?_
  rintro e w2 ⟨r2, rfl, hr3, hr4, hb2, hbel2⟩
  obtain ⟨⟨vo, hold⟩, hfr⟩ := hb2.old (r2 - 1) (by omega)
  have hr5 : 1 ≤ r2 := by omega
  have hbw2 := hbw1.trans hbel2
  clear hsl hbel2 hbw1 hb1
  go_wp2
  go_ret
  exact ⟨r2 - 1, ret_int (by omega), by omega, hb2.store _ _ (by omega) (by omega), below_set hbw2 _ _⟩
end Go.Proofs.YbulkdqscFmt.lawC
