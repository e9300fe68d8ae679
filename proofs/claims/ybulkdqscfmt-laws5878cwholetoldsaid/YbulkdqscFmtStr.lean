/- (time.Duration).String (function 8) at a duration that is not above 0: some text; nothing that was there is written. -/
import Derived.Test.YbulkdqscFmtBig
namespace Go.Proofs.YbulkdqscFmt.lawC
open Go.ChangeShapes Go.WideShapes Go.ChangeAt Go.RowKit

theorem wrap_u64 (n : Int) : IntKind.u64.wrap n = n % 18446744073709551616 := by
  simp [IntKind.wrap, IntKind.signed, IntKind.bits]

theorem neg_of (d : Int) (h0 : d < 0) (h1 : -9223372036854775808 ≤ d) : IntKind.u64.wrap (-(IntKind.u64.wrap d)) = -d := by
  rw [wrap_u64, wrap_u64]
  omega

theorem format_any (g : Nat) (d : Int) (w : World) (h0 : d ≤ 0) (h1 : -9223372036854775808 ≤ d) (hb : Buf w g) : Calls Ybaf.prog 10 #[.int .i64 d, .pointer (some ⟨g, 0, none⟩)] w (Formed g w) := by
  by_cases hz : d = 0
  · subst hz
    exact format_zero g w hb
  · have hn := neg_of d (by omega) h1
    by_cases a1 : -d < 1000
    · exact format_nano g d _ (-d) w (by omega) rfl hn (by omega) a1 (by omega) hb
    · by_cases a2 : -d < 1000000
      · exact format_micro g d _ (-d) w (by omega) rfl hn (by omega) a2 (by omega) hb
      · by_cases a3 : -d < 1000000000
        · exact format_milli g d _ (-d) w (by omega) rfl hn (by omega) a3 hb
        · exact format_big g d _ (-d) w (by omega) rfl hn (by omega) (by omega) hb

theorem slice_from (g r : Nat) (hr : r < 32) (W : World) : (Instr.sliceAt 34 (.pointer (some ⟨g, 0, none⟩)) (some (.int .i64 (r : Int))) none none).run Ybaf.prog W = .ok (.slice (some ⟨g, r, none⟩) (32 - r) (32 - r)) W := by
  have hlen : Ybaf.prog.arrayLen 34 = 32 := by kernel_rfl
  have h := run_sliceAt_array_l (P := Ybaf.prog) (w := W) (t := 34) (a := ⟨g, 0, none⟩) (by kernel_rfl) .i64 (r : Int) (by omega) (by rw [hlen]; omega)
  have hs : (sizeOf (Ybaf.prog.elem 34)).run Ybaf.prog W = .ok 1 W := by kernel_rfl
  rw [h, hlen, hs]
  simp [slicedAt, Addr.add_lit, show ¬ 32 = r by omega]

theorem text_of {W : World} {g r : Nat} (hb : Buf W g) (hr : r < 32) : ∃ s : ByteArray, (convert 37 9 (.slice (some ⟨g, r, none⟩) (32 - r) (32 - r))).run Ybaf.prog W = .ok (.string s) W := by
  obtain ⟨l, hl, hg⟩ := hb
  have hlen : (l.drop r).length = 32 - r := by simp [hl]
  have h := run_convert_bytes_back (P := Ybaf.prog) W 37 9 5 ⟨g, r, none⟩ (32 - r) (l.drop r) Ybaf.underlying37 Ybaf.underlying5 Ybaf.underlying9 (fun j hj => by
    rw [Addr.add_lit, cell_of_row W g (r + j) _ 34 (0, 0) hg]
    simp [show r + j < l.length by omega])
  rw [hlen] at h
  exact ⟨_, h⟩

/-- Some text. -/
def Said (w : World) (e : Ending) (w' : World) : Prop := ∃ s : ByteArray, e = .returned (.string s) ∧ Below w.heap.size w w'

set_option maxRecDepth 100000 in
set_option maxHeartbeats 2000000 in
theorem string_any (d : Int) (w : World) (h0 : d ≤ 0) (h1 : -9223372036854775808 ≤ d) : Calls Ybaf.prog 8 #[.int .i64 d] w (Said w) := by
  go_enter Ybaf.func8, Ybaf.ntmps8
  go_wp2_with fail
  refine (format_any w.heap.size d _ h0 h1 ?_).mono ?_
  · exact ⟨List.replicate 32 0, rfl, heap_alloc_new w _⟩
  rintro e w1 ⟨r, rfl, hr, hb1, hbel1⟩
  have hsl := slice_from w.heap.size r hr
  obtain ⟨s, hs⟩ := text_of hb1 hr
  have hbw : Below w.heap.size w w1 := ((Below.refl _ _).alloc (Nat.le_refl _) _).trans hbel1
  clear hbel1 hb1
  go_wp2
  go_ret
  exact ⟨s, rfl, hbw⟩
end Go.Proofs.YbulkdqscFmt.lawC
