/- (time.Duration).format (function 10) from a second on. -/
import Derived.Test.YbulkdqscFmtSmall
namespace Go.Proofs.YbulkdqscFmt.lawC
open Go.ChangeShapes Go.WideShapes Go.ChangeAt Go.RowKit

set_option maxRecDepth 100000 in
set_option maxHeartbeats 2000000 in
theorem format_big (g : Nat) (d x V : Int) (w : World) (hd : d < 0) (hx : IntKind.u64.wrap d = x) (hneg : IntKind.u64.wrap (-x) = V) (h1 : 1000000000 ≤ V) (h2 : V ≤ 9223372036854775808) (hb : Buf w g) :
    Calls Ybaf.prog 10 #[.int .i64 d, .pointer (some ⟨g, 0, none⟩)] w (Formed g w) := by
  obtain ⟨⟨v1, hold1⟩, hfr1⟩ := hb.old 31 (by omega)
  have H2 : Hid (V ≤ 9223372036854775808) := h2
  clear h2
  go_enter Ybaf.func10, Ybaf.ntmps10
  go_wp2_with fail
  refine (frac_call g 31 9 V 9 _ (by omega) (by omega) (by omega) (by omega) H2.out rfl (hb.store _ _ (by omega) (by omega))).mono ?_
  rintro e w1 ⟨r, v, rfl, hr1, hr2, hv0, hv1, hb1, hbel1⟩
  have hv2 : v * 1000000000 ≤ V := hv1
  have hv3 : v ≤ 9223372036 := by have := H2.out; omega
  clear hv1 hv2
  have hbw1 : Below g w w1 := (below_set (Below.refl g w) _ _).trans hbel1
  clear hbel1 hold1 hfr1 hb
  have hsl := slice_to g r (by omega)
  go_wp2_with fail
  refine (int_call g r 2 (v % 60) _ (by omega) (by omega) (by omega) (by omega) (by omega) (by show v % 60 < 100; omega) hb1).mono ?_
  rintro e w2 ⟨r2, rfl, hr3, hr4, hb2, hbel2⟩
  have hbw2 := hbw1.trans hbel2
  clear hsl hbel2 hbw1 hb1
  obtain ⟨⟨vo, hold⟩, hfr⟩ := hb2.old (r2 - 1) (by omega)
  have hr5 : 1 ≤ r2 := by omega
  by_cases h60 : 0 < v / 60
  · have hsl2 := slice_to g (r2 - 1) (by omega)
    rw [show ((r2 - 1 : Nat) : Int) = (r2 : Int) - 1 by omega] at hsl2
    go_wp2_with fail
    refine (int_call g (r2 - 1) 2 (v / 60 % 60) _ (by omega) (by omega) (by omega) (by omega) (by omega) (by show v / 60 % 60 < 100; omega) (hb2.store _ _ (by omega) (by omega))).mono ?_
    rintro e w3 ⟨r3, rfl, hr6, hr7, hb3, hbel3⟩
    have hbw3 := (below_set hbw2 _ _).trans hbel3
    clear hsl2 hbel3 hbw2 hb2 hold hfr
    obtain ⟨⟨vo3, hold3⟩, hfr3⟩ := hb3.old (r3 - 1) (by omega)
    have hr8 : 1 ≤ r3 := by omega
    by_cases h3600 : 0 < v / 60 / 60
    · have hsl3 := slice_to g (r3 - 1) (by omega)
      rw [show ((r3 - 1 : Nat) : Int) = (r3 : Int) - 1 by omega] at hsl3
      go_wp2_with fail
      refine (int_call g (r3 - 1) 7 (v / 60 / 60) _ (by omega) (by omega) (by omega) (by omega) (by omega) (by show v / 60 / 60 < 10000000; omega) (hb3.store _ _ (by omega) (by omega))).mono ?_
      rintro e w4 ⟨r4, rfl, hr9, hr10, hb4, hbel4⟩
      have hbw4 := (below_set hbw3 _ _).trans hbel4
      clear hsl3 hbel4 hbw3 hb3 hold3 hfr3
      obtain ⟨⟨vo4, hold4⟩, hfr4⟩ := hb4.old (r4 - 1) (by omega)
      have hr11 : 1 ≤ r4 := by omega
      go_wp2
      go_ret
      exact ⟨r4 - 1, ret_int (by omega), by omega, hb4.store _ _ (by omega) (by omega), below_set hbw4 _ _⟩
    · go_wp2
      go_ret
      exact ⟨r3 - 1, ret_int (by omega), by omega, hb3.store _ _ (by omega) (by omega), below_set hbw3 _ _⟩
  · go_wp2
    go_ret
    exact ⟨r2 - 1, ret_int (by omega), by omega, hb2.store _ _ (by omega) (by omega), below_set hbw2 _ _⟩
end Go.Proofs.YbulkdqscFmt.lawC
