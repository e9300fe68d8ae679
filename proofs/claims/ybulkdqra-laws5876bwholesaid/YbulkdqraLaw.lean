/- 'Rows.LawS5876BWholeSaid': the row over the walks (YbulkdqraWalkS.lean, YbulkdqraWalkN.lean). -/
import Derived.Test.YbulkdqraWalkS
import Derived.Test.YbulkdqraWalkN
import Derived.ProofKit
import Derived.OpenShut
import Derived.ChangeOld
import Derived.Below
import Derived.SizedLaws
import Derived.Deep.Slices
import Derived.Deep.Strs
namespace Go.Proofs.Ybulkdqra.lawB
open Go.ChangeShapes Go.WideShapes Go.ChangeAt Go.RowKit

theorem own : ownKnob Yba.prog.godebug = none := by kernel_rfl
theorem laidOut : laidOutB Yba.prog = true := by kernel_rfl
theorem cells26 : Yba.prog.cellsOf 26 = 3 := by kernel_rfl
theorem cells9 : Yba.prog.cellsOf 9 = 1 := by kernel_rfl
theorem cells5 : Yba.prog.cellsOf 5 = 1 := by kernel_rfl
theorem cells4 : Yba.prog.cellsOf 4 = 1 := by kernel_rfl

set_option maxRecDepth 100000 in
theorem law_long1 (a0 : Option Addr) (n0 c0 : Nat) (a1 : Option Addr) (n c1 : Nat) (i : Int) (col : Bool) (w : World) (h : 1048576 < n0) (hm : n0 ≤ maxLen) :
    Calls Yba.prog 3 #[.slice a0 n0 c0, .slice a1 n c1, .int .i64 i, .bool col] w fun e w' => e = .returned (.bool true) ∧ Below w.heap.size w w' := by
  unfold maxLen at hm
  go_enter Yba.func3, Yba.ntmps3
  go_wp2
  go_ret
  exact ⟨rfl, Below.refl _ _⟩

set_option maxRecDepth 100000 in
theorem law_long2 (a0 : Option Addr) (n0 c0 : Nat) (a1 : Option Addr) (n c1 : Nat) (i : Int) (col : Bool) (w : World) (h0 : n0 ≤ 1048576) (h : 1048576 < n) (hm : n ≤ maxLen) :
    Calls Yba.prog 3 #[.slice a0 n0 c0, .slice a1 n c1, .int .i64 i, .bool col] w fun e w' => e = .returned (.bool true) ∧ Below w.heap.size w w' := by
  unfold maxLen at hm
  go_enter Yba.func3, Yba.ntmps3
  go_wp2
  go_ret
  exact ⟨rfl, Below.refl _ _⟩

theorem law_all (a0 : Option Addr) (n0 c0 : Nat) (R : Nat → ByteArray) (X Y : Nat → Nat) (a1 : Option Addr) (n c1 : Nat) (b : Nat → Bool) (i : Int) (col : Bool) (w : World) (h0 : n0 ≤ maxLen) (h1 : n ≤ maxLen)
    (hnil : a1 = none → n = 0 ∧ c1 = 0) (hC : CondsIn w a0 n0 R X Y) (hb : Bools w a1 n b) :
    Calls Yba.prog 3 #[.slice a0 n0 c0, .slice a1 n c1, .int .i64 i, .bool col] w fun e w' => e = .returned (.bool true) ∧ Below w.heap.size w w' := by
  by_cases s0 : n0 ≤ 1048576
  · by_cases s1 : n ≤ 1048576
    · cases a1 with
      | none =>
        obtain ⟨rfl, rfl⟩ := hnil rfl
        exact law_nil a0 n0 c0 R X Y i col w s0 hC
      | some x => exact law_some a0 n0 c0 R X Y x n c1 b i col w s0 s1 hC hb
    · exact law_long2 a0 n0 c0 a1 n c1 i col w s0 (by omega) h1
  · exact law_long1 a0 n0 c0 a1 n c1 i col w (by omega) h0

theorem u8_bounds {n : Int} (h : (Lit.int .u8 n).wf = true) : 0 ≤ n ∧ n ≤ 255 := by
  simp [Lit.wf, IntKind.min, IntKind.max, IntKind.signed, IntKind.bits] at h
  omega

/-- Three cells that read as a condition. -/
theorem cond_of_trod {H : Type} {enc : TypeId × Value → H} {w : World} {base : Nat} {spare : Nat → Bool} {held : Bool} {m : Nat} {cs : List Value} {x : DataW H × List MemPlace}
    (h : DataW.trod enc Yba.prog w base spare held m 26 cs = some x) : ∃ q : ByteArray × Nat × Nat, cs = [.string q.1, .int .u8 (q.2.1 : Int), .int .u8 (q.2.2 : Int)] ∧ q.2.1 ≤ 255 ∧ q.2.2 ≤ 255 := by
  obtain ⟨y0, y1, y2, n, _, hl, t0, t1, t2⟩ := Deep.trod_struct3 Yba.underlying26 h
  rw [cells26] at hl
  simp only [cells9, cells5] at t0 t1 t2
  match cs, hl with
  | [v0, v1, v2], _ =>
    obtain ⟨r, e0, _, _⟩ := DataW.trod_string Yba.underlying9 t0
    obtain ⟨p, e1, _, w1⟩ := DataW.trod_int Yba.underlying5 t1
    obtain ⟨q, e2, _, w2⟩ := DataW.trod_int Yba.underlying5 t2
    simp at e0 e1 e2
    subst e0; subst e1; subst e2
    have b1 := u8_bounds w1
    have b2 := u8_bounds w2
    refine ⟨(r, p.toNat, q.toNat), ?_, by simp; omega, by simp; omega⟩
    simp [Int.toNat_of_nonneg b1.1, Int.toNat_of_nonneg b2.1]

set_option maxRecDepth 100000 in
theorem lifted (os : Os) (started : os.Started) (H : Type) (enc : TypeId × Value → H) :
    ReturnsInHanded {} Yba.checked os 3 .any (Rows.lawS5876BWholeSpec.pre6 enc Yba.prog Yba.f3 Rows.lawS5876BWholeRow.domain false) (Rows.lawS5876BWholeSpec.post enc Yba.prog Yba.f3 false true false false) := by
  refine returnsInHanded_of_change (C := Yba.checked) own started (by kernel_rfl) Yba.func3
    (ChangeSpec.witness6 (enc := enc) (C := Yba.checked) false ⟨#[], #[.slice none 0 0, .slice none 0 0, .int .i64 0, .bool false], []⟩ 8 (by kernel_rfl) (by kernel_rfl) (by kernel_rfl) (by kernel_rfl)) ?_
  intro W base args ds gs before hval0 hW hcnd _
  have hval : ∀ (j : Nat) t v, Yba.f3.params[j]? = some t → args[j]? = some v → Value.okWide Yba.prog W .any base t v := hval0
  have hW' := hW
  obtain ⟨p, q, hA0, hV, rfl, hfz, hnd⟩ := hW
  have hA : DataW.TrodAll enc Yba.prog W 0 (fun _ => true) true Yba.f3.params.toList args.toList ds p := hA0
  rw [Yba.params3] at hA hval
  obtain ⟨v0, vs0, d0, ds0, p0, q0, hargs, rfl, rfl, h0, r0⟩ := trodAll_cons hA
  obtain ⟨v1, vs1, d1, ds1, p1, q1, rfl, rfl, rfl, h1, r1⟩ := trodAll_cons r0
  obtain ⟨v2, vs2, d2, ds2, p2, q2, rfl, rfl, rfl, h2, r2⟩ := trodAll_cons r1
  obtain ⟨v3, vs3, d3, ds3, p3, q3, rfl, rfl, rfl, h3, r3⟩ := trodAll_cons r2
  obtain ⟨rfl, rfl, rfl⟩ := trodAll_nil r3
  obtain rfl : args = #[v0, v1, v2, v3] := by cases args; simp_all
  obtain ⟨rfl, rfl⟩ := trodVars_none hV
  obtain ⟨a0, len0, cap0, rfl⟩ := okWide_slice Yba.underlying22 (hval 0 22 v0 rfl rfl)
  obtain ⟨a1, len1, cap1, rfl⟩ := okWide_slice Yba.underlying23 (hval 1 23 v1 rfl rfl)
  have k0 := h0
  have k1 := h1
  have lt0 : ∀ x ∈ p0, x.block < W.heap.size := by obtain ⟨m, hm⟩ := k0; exact DataW.trod_lt m _ _ _ hm
  have lt1 : ∀ x ∈ p1, x.block < W.heap.size := by obtain ⟨m, hm⟩ := k1; exact DataW.trod_lt m _ _ _ hm
  obtain ⟨R, X, Y, b0, w0⟩ : ∃ R X Y, len0 ≤ maxLen ∧ CondsIn W a0 len0 R X Y := by
    obtain ⟨fuel, hf⟩ := h0
    rcases Deep.open_slice Yba.underlying22 hf with ⟨hcs, _⟩ | ⟨x, l, c, m, n, D, Pl, hcs, _, hl, hm, hmm, hx, hcell⟩
    · simp [Value.cells] at hcs
      obtain ⟨rfl, rfl, rfl⟩ := hcs
      exact ⟨fun _ => ByteArray.empty, fun _ => 0, fun _ => 0, Nat.zero_le _, fun h => absurd h (Nat.lt_irrefl _)⟩
    · simp [Value.cells] at hcs
      obtain ⟨rfl, rfl, rfl⟩ := hcs
      simp only [if_true] at hmm
      subst hmm
      rw [cells26] at hcell
      obtain ⟨F, hF⟩ := Deep.choose_lt (α := ByteArray × Nat × Nat) (p := fun i q => W.cell? (x.add (i * 3)) = some (.string q.1) ∧ W.cell? (x.add (i * 3 + 1)) = some (.int .u8 (q.2.1 : Int)) ∧ W.cell? (x.add (i * 3 + 2)) = some (.int .u8 (q.2.2 : Int)) ∧ q.2.1 ≤ 255 ∧ q.2.2 ≤ 255) (n := m) (fun i hi => by
        obtain ⟨cs', hc1, hc2⟩ := hcell i hi
        obtain ⟨q, rfl, hq1, hq2⟩ := cond_of_trod hc2
        obtain ⟨_, _, hget⟩ := World.cells?_some hc1
        refine ⟨q, ?_, ?_, ?_, hq1, hq2⟩
        · have := hget 0 (by omega)
          rwa [Deep.add_add] at this
        · have := hget 1 (by omega)
          rwa [Deep.add_add] at this
        · have := hget 2 (by omega)
          rwa [Deep.add_add] at this)
      refine ⟨fun i => (F i).1, fun i => (F i).2.1, fun i => (F i).2.2, by omega, fun hp => ?_⟩
      obtain ⟨xb, xo, xs⟩ := x
      have hspot : xs = none := by simpa [Addr.add] using World.cell?_spot (hF 0 (by omega)).1
      subst hspot
      refine ⟨xb, xo, rfl, fun i hi => ?_⟩
      obtain ⟨f0, f1, f2, f3, f4⟩ := hF i (by omega)
      rw [Addr.add_lit] at f0 f1 f2
      exact ⟨f0, f1, f2, f3, f4⟩
  obtain ⟨b, b1, n1, w1⟩ : ∃ b, len1 ≤ maxLen ∧ (a1 = none → len1 = 0 ∧ cap1 = 0) ∧ Bools W a1 len1 b := by
    obtain ⟨fuel, hf⟩ := h1
    rcases Deep.open_slice1 Yba.underlying23 cells4 hf with ⟨hcs, _⟩ | ⟨x, l, c, m, n, V, D, Pl, hcs, _, hl, hm, hmm, hx, hcell⟩
    · simp [Value.cells] at hcs
      obtain ⟨rfl, rfl, rfl⟩ := hcs
      exact ⟨fun _ => false, Nat.zero_le _, fun _ => ⟨rfl, rfl⟩, fun h => absurd h (Nat.lt_irrefl _)⟩
    · simp [Value.cells] at hcs
      obtain ⟨rfl, rfl, rfl⟩ := hcs
      simp only [if_true] at hmm
      subst hmm
      obtain ⟨F, hF⟩ := Deep.choose_lt (α := Bool) (n := m) (p := fun i b => V i = .bool b) (fun i hi => by
        obtain ⟨b, hb, _⟩ := DataW.trod_bool Yba.underlying4 (hcell i hi).2
        exact ⟨b, by simpa using hb⟩)
      refine ⟨F, by omega, (fun h => by cases h), fun hp => ?_⟩
      obtain ⟨xb, xo, xs⟩ := x
      have hspot : xs = none := by simpa [Addr.add] using World.cell?_spot (hcell 0 (by omega)).1
      subst hspot
      refine ⟨xb, xo, rfl, fun i hi => ?_⟩
      have hc := (hcell i (by omega)).1
      rw [Addr.add_lit, hF i (by omega)] at hc
      exact hc
  obtain ⟨i, rfl, rfl, rfl, w2⟩ := open_int Yba.underlying3 (hval 2 3 v2 rfl rfl) h2
  obtain ⟨col, rfl, rfl, rfl⟩ := open_bool Yba.underlying4 (hval 3 4 v3 rfl rfl) h3
  clear hA0 hval0
  refine (law_all a0 len0 cap0 R X Y a1 len1 cap1 b i col W b0 b1 n1 w0 w1).mono fun e W' ⟨he, bel⟩ => ?_
  subst he
  exact ⟨_, rfl, _, _, _, [], _, [], hW', trodAll_mk1 (shut_bool Yba.underlying4 _), (trodAll_cons_mk (Below.trod laidOut (by kernel_rfl) (of_decide_eq_true (by kernel_rfl)) k0 bel lt0) (trodAll_cons_mk (Below.trod laidOut (by kernel_rfl) (of_decide_eq_true (by kernel_rfl)) k1 bel lt1) (trodAll_cons_mk (shut_int Yba.underlying3 w2) (trodAll_cons_mk (shut_bool Yba.underlying4 col) trodAll_mk0)))), rfl, bel.frame _, fun h => by cases h⟩

theorem over : Rows.lawS5876BWholeRow.holds Yba.pinned (OpenSpec.ofChange Rows.lawS5876BWholeSpec) :=
  OpenClaim.holds_of_wide 3 Yba.f3 rfl rfl rfl rfl rfl rfl rfl ⟨rfl, rfl, rfl, rfl, rfl⟩ rfl rfl rfl rfl rfl (by kernel_rfl) Yba.func3 (by kernel_rfl)
    (of_decide_eq_true (by kernel_rfl)) (by unfold Func.isWrapper; first | (rw [if_pos (by decide +kernel)]; kernel_rfl) | (rw [if_neg (by decide +kernel)]; exact ⟨rfl, rfl⟩))
    (fun os started H enc _ => lifted os started H enc)

/-- THE STATEMENT. -/
theorem proved : Rows.LawS5876BWholeSaid := over
#print axioms proved
end Go.Proofs.Ybulkdqra.lawB
