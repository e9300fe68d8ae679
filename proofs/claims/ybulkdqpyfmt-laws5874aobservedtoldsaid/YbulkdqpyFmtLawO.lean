/- 'Rows.LawS5874AObservedToldSaid': the told card over the walk (YbulkdqpyFmtWalkO.lean). -/
import Derived.Test.YbulkdqpyFmtWalkO
import Derived.Test.YbulkdqpyFmtCards
import Derived.ProofKit
import Derived.OpenShut
import Derived.ChangeOld
import Derived.Below
import Derived.SizedLaws
import Derived.Deep.Slices
import Derived.Stop.JoinedTold
import Derived.SevenToldRow
namespace Go.Proofs.YbulkdqpyFmt.lawO
open Go.ChangeShapes Go.WideShapes Go.ChangeAt Go.RowKit
open Go.Extern.Stop Go.Stop Go.Extern

theorem own : ownKnob Ybaf.prog.godebug = none := by kernel_rfl
theorem laidOut : laidOutB Ybaf.pinned.checked.prog = true := by kernel_rfl
theorem bytes23 : Ybaf.prog.bytesOf 23 = 8 := by kernel_rfl
theorem stops : Rows.lawS5874AObservedRow.stops = Ybaf.pinned.checked.prog.stops := by kernel_rfl
theorem stopKnobs : Ybaf.pinned.checked.prog.stopKnobs = [] := by kernel_rfl
theorem quiet (os : Os) : Stop.quiet Ybaf.pinned.checked.prog os := by
  intro k hk
  rw [stopKnobs] at hk
  cases hk

/-- A cell that reads as a float holds a float. -/
theorem float_of_trod {H : Type} {enc : TypeId × Value → H} {P : Program} {w : World} {base : Nat} {spare : Nat → Bool} {held : Bool} {n : Nat} {t : TypeId} {v : Value} {x : DataW H × List MemPlace} {k : FloatKind}
    (ht : P.underlying t = some (.float k)) (h : DataW.trod enc P w base spare held n t [v] = some x) : ∃ b, v = .float k b := by
  cases n with
  | zero => simp [DataW.trod] at h
  | succ n =>
    simp only [DataW.trod, ht] at h
    cases v <;> simp at h
    rename_i k' b
    obtain ⟨⟨rfl, _⟩, _⟩ := h
    exact ⟨b, rfl⟩

theorem u8_bounds {n : Int} (h : (Lit.int .u8 n).wf = true) : 0 ≤ n ∧ n ≤ 255 := by
  simp [Lit.wf, IntKind.min, IntKind.max, IntKind.signed, IntKind.bits] at h
  omega

set_option maxRecDepth 100000 in
theorem lifted (os : Os) (started : os.Started) (H : Type) (enc : TypeId × Value → H) :
    ReturnsInTold none {} Ybaf.checked os 3 .any Input.okWide ((OpenSpec.ofChange Rows.lawS5874AObservedSpec).preRow enc Ybaf.prog Ybaf.f3 [] false []) (fun F => ((OpenSpec.ofChange Rows.lawS5874AObservedSpec).at F).post enc Ybaf.prog Ybaf.f3 false true false false) (aloneAtReturn Ybaf.prog) nothingAlways := by
  refine returnsInTold_of_row (C := Ybaf.checked) (s := OpenSpec.ofChange Rows.lawS5874AObservedSpec) (by kernel_rfl) own started (by kernel_rfl) Ybaf.func3
    (OpenSpec.witness_stopped (enc := enc) (C := Ybaf.checked) false ⟨#[], #[.int .u8 0, .slice none 0 0], []⟩ 8 (by kernel_rfl) (by kernel_rfl) (by kernel_rfl) (by kernel_rfl)) ?_
  intro F W base args ds gs before _ hF hval0 hW _ _ hsz0 _ _
  have hval : ∀ (j : Nat) t v, Ybaf.f3.params[j]? = some t → args[j]? = some v → Value.okWide Ybaf.prog W .any base t v := hval0
  have hsz : (DataW.weightsEach Ybaf.prog (Ybaf.f3.params.toList ++ (OpenSpec.ofChange Rows.lawS5874AObservedSpec).bare.plain.varTypes Ybaf.prog) (ds ++ gs)).all (· ≤ reachBytes) = true := hsz0
  have hW' := hW
  obtain ⟨p, q, hA0, hV, rfl, _, _⟩ := hW
  have hA : DataW.TrodAll enc Ybaf.prog W 0 (fun _ => true) true Ybaf.f3.params.toList args.toList ds p := hA0
  rw [Ybaf.params3] at hA hval hsz
  obtain ⟨v0, vs0, d0, ds0, p0, q0, hargs, rfl, rfl, h0, r0⟩ := trodAll_cons hA
  obtain ⟨v1, vs1, d1, ds1, p1, q1, rfl, rfl, rfl, h1, r1⟩ := trodAll_cons r0
  obtain ⟨rfl, rfl, rfl⟩ := trodAll_nil r1
  obtain rfl : args = #[v0, v1] := by cases args; simp_all
  obtain ⟨rfl, rfl⟩ := trodVars_none hV
  obtain ⟨nb, rfl, rfl, rfl, w0⟩ := open_int Ybaf.underlying5 (hval 0 5 v0 rfl rfl) h0
  obtain ⟨a1, len1, cap1, rfl⟩ := okWide_slice Ybaf.underlying22 (hval 1 22 v1 rfl rfl)
  have k1 := h1
  have lt1 : ∀ x ∈ p1, x.block < W.heap.size := by obtain ⟨m, hm⟩ := k1; exact DataW.trod_lt m _ _ _ hm
  obtain ⟨fs, b1, z1⟩ : ∃ fs, len1 ≤ 140737488351232 ∧ Flts W a1 len1 fs := by
    obtain ⟨fuel, hf⟩ := h1
    rcases Deep.open_slice1 Ybaf.underlying22 (by kernel_rfl) hf with ⟨hcs, _⟩ | ⟨x, l, c, m, n, V, D, Pl, hcs, _, hl, hm, hmm, hx, hcell⟩
    · simp [Value.cells] at hcs
      obtain ⟨rfl, rfl, rfl⟩ := hcs
      exact ⟨[], by omega, fun h => absurd h (Nat.lt_irrefl _)⟩
    · simp [Value.cells] at hcs
      obtain ⟨rfl, rfl, rfl⟩ := hcs
      simp only [Prod.mk.injEq] at hx
      have := sized_slice hsz (j := 1) (t := 22) (e := 23) rfl (by rw [hx.1]; rfl) Ybaf.underlying22
      rw [bytes23] at this
      simp only [List.length_map, List.length_range, reachBytes] at this
      simp only [if_true] at hmm
      subst hmm
      obtain ⟨G, hG⟩ := Deep.choose_lt (α := Nat) (p := fun i b => V i = .float .f64 b) (fun i hi => float_of_trod Ybaf.underlying23 (hcell i hi).2)
      refine ⟨(List.range m).map G, by omega, fun hp => ?_⟩
      obtain ⟨xb, xo, xs⟩ := x
      have hspot : xs = none := by simpa [Addr.add] using World.cell?_spot (hcell 0 (by omega)).1
      subst hspot
      refine ⟨xb, xo, rfl, fun i hi => ?_⟩
      have hc := (hcell i (by omega)).1
      rw [Addr.add_lit, hG i (by omega)] at hc
      rw [hc]
      simp [List.getD, show i < m by omega]
  clear hA0 hval0
  refine (law_all nb a1 len1 cap1 fs W (u8_bounds w0).1 (u8_bounds w0).2 b1 z1).mono fun e W' ⟨he, bel⟩ => ?_
  subst he
  exact ⟨_, rfl, _, _, _, [], _, [], hW', trodAll_mk1 (shut_bool Ybaf.underlying4 _), (trodAll_cons_mk (shut_int Ybaf.underlying5 w0) (trodAll_cons_mk (Below.trod laidOut (by kernel_rfl) (of_decide_eq_true (by kernel_rfl)) k1 bel lt1) trodAll_mk0)), rfl, bel.frame _, fun h => by cases h⟩

/-- THE STATEMENT. -/
theorem proved : Rows.LawS5874AObservedToldSaid :=
  Claim7.holds_of_told_any 3 Ybaf.f3 _ _ [] _ _ _ (by kernel_rfl) rfl rfl rfl laidOut (by kernel_rfl) rfl ⟨rfl, rfl, rfl, rfl, rfl, rfl, rfl⟩ rfl rfl (by kernel_rfl) (by kernel_rfl) Ybaf.func3 (by kernel_rfl)
    (of_decide_eq_true (by kernel_rfl)) (of_decide_eq_true (by kernel_rfl)) stops rfl stopKnobs.symm (by kernel_rfl)
    (by kernel_rfl) (by kernel_rfl) (by kernel_rfl) (by kernel_rfl) (by kernel_rfl) (by kernel_rfl) (by kernel_rfl) (by kernel_rfl) (by kernel_rfl) rfl (by kernel_rfl) rfl rfl
    rfl rfl
    rfl (by kernel_rfl) (by kernel_rfl) (by kernel_rfl) (by decide) (by kernel_rfl)
    (OpenClaim.moreEntering_of (by kernel_rfl) (by kernel_rfl) (by kernel_rfl) (by kernel_rfl) (by kernel_rfl) (by kernel_rfl) (by kernel_rfl) (by kernel_rfl) (by kernel_rfl) (by kernel_rfl))
    ⟨_, WideRow.started_initial, quiet _⟩
    (fun os started _ H enc _ => lifted os started H enc)
#print axioms proved
end Go.Proofs.YbulkdqpyFmt.lawO
