/- 'Rows.LawS5874AWholeSaid': the row over the walk (YbulkdqpyWalk.lean). -/
import Derived.Test.YbulkdqpyWalk
import Derived.ProofKit
import Derived.OpenShut
import Derived.ChangeOld
import Derived.Below
import Derived.SizedLaws
import Derived.Deep.Slices
namespace Go.Proofs.Ybulkdqpy.lawA
open Go.ChangeShapes Go.WideShapes Go.ChangeAt Go.RowKit

theorem own : ownKnob Yba.prog.godebug = none := by kernel_rfl
theorem laidOut : laidOutB Yba.prog = true := by kernel_rfl
theorem bytes24 : Yba.prog.bytesOf 24 = 8 := by kernel_rfl
theorem bytes25 : Yba.prog.bytesOf 25 = 8 := by kernel_rfl

/-- A cell that reads as a float holds a float. -/
theorem float_of_trod {H : Type} {enc : TypeId × Value → H} {P : Program} {w : World} {base : Nat} {spare : Nat → Bool} {held : Bool} {n : Nat} {t : TypeId} {v : Value} {x : DataW H × List MemPlace} {k : FloatKind}
    (ht : P.underlying t = some (.float k)) (h : DataW.trod enc P w base spare held n t [v] = some x) : ∃ b, v = .float k b := by
  cases n with
  | zero => simp [DataW.trod] at h
  | succ n =>
    simp only [DataW.trod, ht] at h
    cases v <;> simp at h
    rename_i k' b
    obtain ⟨⟨rfl, _⟩, _⟩ := h
    exact ⟨b, rfl⟩

set_option maxRecDepth 100000 in
theorem lifted (os : Os) (started : os.Started) (H : Type) (enc : TypeId × Value → H) :
    ReturnsInHanded {} Yba.checked os 3 .any (Rows.lawS5874AWholeSpec.pre6 enc Yba.prog Yba.f3 Rows.lawS5874AWholeRow.domain false) (Rows.lawS5874AWholeSpec.post enc Yba.prog Yba.f3 false true false false) := by
  refine returnsInHanded_of_change_sized (C := Yba.checked) own started (by kernel_rfl) Yba.func3
    (ChangeSpec.witness6 (enc := enc) (C := Yba.checked) false ⟨#[], #[.slice none 0 0, .slice none 0 0, .float .f64 0], []⟩ 8 (by kernel_rfl) (by kernel_rfl) (by kernel_rfl) (by kernel_rfl)) ?_
  intro W base args ds gs before hval0 hW hcnd hsz0 _
  have hval : ∀ (j : Nat) t v, Yba.f3.params[j]? = some t → args[j]? = some v → Value.okWide Yba.prog W .any base t v := hval0
  have hsz : (DataW.weightsEach Yba.prog (Yba.f3.params.toList ++ Rows.lawS5874AWholeSpec.plain.varTypes Yba.prog) (ds ++ gs)).all (· ≤ reachBytes) = true := hsz0
  have hW' := hW
  obtain ⟨p, q, hA0, hV, rfl, hfz, hnd⟩ := hW
  have hA : DataW.TrodAll enc Yba.prog W 0 (fun _ => true) true Yba.f3.params.toList args.toList ds p := hA0
  rw [Yba.params3] at hA hval hsz
  obtain ⟨v0, vs0, d0, ds0, p0, q0, hargs, rfl, rfl, h0, r0⟩ := trodAll_cons hA
  obtain ⟨v1, vs1, d1, ds1, p1, q1, rfl, rfl, rfl, h1, r1⟩ := trodAll_cons r0
  obtain ⟨v2, vs2, d2, ds2, p2, q2, rfl, rfl, rfl, h2, r2⟩ := trodAll_cons r1
  obtain ⟨rfl, rfl, rfl⟩ := trodAll_nil r2
  obtain rfl : args = #[v0, v1, v2] := by cases args; simp_all
  obtain ⟨rfl, rfl⟩ := trodVars_none hV
  obtain ⟨a0, len0, cap0, rfl⟩ := okWide_slice Yba.underlying22 (hval 0 22 v0 rfl rfl)
  obtain ⟨a1, len1, cap1, rfl⟩ := okWide_slice Yba.underlying23 (hval 1 23 v1 rfl rfl)
  have k0 := h0
  have k1 := h1
  have lt0 : ∀ x ∈ p0, x.block < W.heap.size := by obtain ⟨m, hm⟩ := k0; exact DataW.trod_lt m _ _ _ hm
  have lt1 : ∀ x ∈ p1, x.block < W.heap.size := by obtain ⟨m, hm⟩ := k1; exact DataW.trod_lt m _ _ _ hm
  obtain ⟨fs, b0, w0⟩ : ∃ fs, len0 ≤ 140737488351232 ∧ Flts W a0 len0 fs := by
    obtain ⟨fuel, hf⟩ := h0
    rcases Deep.open_slice1 Yba.underlying22 (by kernel_rfl) hf with ⟨hcs, _⟩ | ⟨x, l, c, m, n, V, D, Pl, hcs, _, hl, hm, hmm, hx, hcell⟩
    · simp [Value.cells] at hcs
      obtain ⟨rfl, rfl, rfl⟩ := hcs
      exact ⟨[], by omega, fun h => absurd h (Nat.lt_irrefl _)⟩
    · simp [Value.cells] at hcs
      obtain ⟨rfl, rfl, rfl⟩ := hcs
      simp only [Prod.mk.injEq] at hx
      have := sized_slice hsz (j := 0) (t := 22) (e := 24) rfl (by rw [hx.1]; rfl) Yba.underlying22
      rw [bytes24] at this
      simp only [List.length_map, List.length_range, reachBytes] at this
      simp only [if_true] at hmm
      subst hmm
      obtain ⟨F, hF⟩ := Deep.choose_lt (α := Nat) (p := fun i b => V i = .float .f64 b) (fun i hi => float_of_trod Yba.underlying24 (hcell i hi).2)
      refine ⟨(List.range m).map F, by omega, fun hp => ?_⟩
      obtain ⟨xb, xo, xs⟩ := x
      have hspot : xs = none := by simpa [Addr.add] using World.cell?_spot (hcell 0 (by omega)).1
      subst hspot
      refine ⟨xb, xo, rfl, fun i hi => ?_⟩
      have hc := (hcell i (by omega)).1
      rw [Addr.add_lit, hF i (by omega)] at hc
      rw [hc]
      simp [List.getD, show i < m by omega]
  obtain ⟨zs, b1, w1⟩ : ∃ zs, len1 ≤ 140737488351232 ∧ Nums W a1 len1 zs := by
    obtain ⟨fuel, hf⟩ := h1
    rcases open_ints Yba.underlying23 Yba.underlying25 (by kernel_rfl) hf with ⟨hcs, _⟩ | ⟨x, l, c, zs, hcs, _, hl, hm, hz, hx, hcell, hwz⟩
    · simp [Value.cells] at hcs
      obtain ⟨rfl, rfl, rfl⟩ := hcs
      exact ⟨[], by omega, rfl, fun h => absurd h (Nat.lt_irrefl _)⟩
    · simp [Value.cells] at hcs
      obtain ⟨rfl, rfl, rfl⟩ := hcs
      simp only [Prod.mk.injEq] at hx
      simp only [if_true] at hz
      have := sized_slice hsz (j := 1) (t := 23) (e := 25) rfl (by rw [hx.1]; rfl) Yba.underlying23
      rw [bytes25] at this
      simp only [lits, List.length_map, List.length_take, List.length_drop, reachBytes] at this
      refine ⟨zs.take len1, by omega, by simp; omega, fun hp => ?_⟩
      obtain ⟨xb, xo, xs⟩ := x
      have hspot : xs = none := by simpa [Addr.add] using World.cell?_spot (hcell 0 (by omega))
      subst hspot
      refine ⟨xb, xo, rfl, fun i hi => ?_⟩
      have hc := hcell i (by omega)
      rw [Addr.add_lit] at hc
      rw [hc]
      simp [List.getD, hi]
  obtain ⟨s, rfl, rfl, rfl, ws⟩ := open_float Yba.underlying24 (hval 2 24 v2 rfl rfl) h2
  clear hA0 hval0
  refine (law_all a0 len0 cap0 a1 len1 cap1 s fs zs W b0 b1 w0 w1).mono fun e W' ⟨he, bel⟩ => ?_
  subst he
  exact ⟨_, rfl, _, _, _, [], _, [], hW', trodAll_mk1 (shut_bool Yba.underlying4 _), (trodAll_cons_mk (Below.trod laidOut (by kernel_rfl) (of_decide_eq_true (by kernel_rfl)) k0 bel lt0) (trodAll_cons_mk (Below.trod laidOut (by kernel_rfl) (of_decide_eq_true (by kernel_rfl)) k1 bel lt1) (trodAll_cons_mk (shut_float Yba.underlying24 ws) trodAll_mk0))), rfl, bel.frame _, fun h => by cases h⟩

theorem over : Rows.lawS5874AWholeRow.holds Yba.pinned (OpenSpec.ofChange Rows.lawS5874AWholeSpec) :=
  OpenClaim.holds_of_wide 3 Yba.f3 rfl rfl rfl rfl rfl rfl rfl ⟨rfl, rfl, rfl, rfl, rfl⟩ rfl rfl rfl rfl rfl (by kernel_rfl) Yba.func3 (by kernel_rfl)
    (of_decide_eq_true (by kernel_rfl)) (by unfold Func.isWrapper; first | (rw [if_pos (by decide +kernel)]; kernel_rfl) | (rw [if_neg (by decide +kernel)]; exact ⟨rfl, rfl⟩))
    (fun os started H enc _ => lifted os started H enc)

/-- THE STATEMENT. -/
theorem proved : Rows.LawS5874AWholeSaid := over
#print axioms proved
end Go.Proofs.Ybulkdqpy.lawA
