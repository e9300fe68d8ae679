/- (*Histogram).Observe (function 8) over a histogram that the call itself made. -/
import Derived.Test.YbulkdqpyFmtSearch
namespace Go.Proofs.YbulkdqpyFmt.lawO
open Go.ChangeShapes Go.WideShapes Go.ChangeAt Go.RowKit

/-- A law that the kit lacks: a float is stored as any other cell. -/
theorem run_store_float {P : Program} (w : World) (a : Addr) (m : Mode) (k : FloatKind) (n : Nat) : (store a (.float k n) m).run P w = stored P w a (.float k n) m := run_store P w a _ m rfl
attribute [local go_sem] run_store_float

/-- A float addition gives some float; the world is as it was, or one answer further (a NaN's bits are drawn). -/
theorem add_any (x y : Nat) : (∃ r, ∀ W : World, (binOp .add 23 (.float .f64 x) (.float .f64 y)).run Ybaf.prog W = .ok (.float .f64 r) W) ∨
    (∃ R : World → Nat, ∀ W : World, (binOp .add 23 (.float .f64 x) (.float .f64 y)).run Ybaf.prog W = .ok (.float .f64 (R W)) W.drew) := by
  cases h : floatBits .add .f64 x y with
  | some r => exact .inl ⟨r, fun W => run_float_arith W .add 23 .f64 x y r h⟩
  | none =>
    refine .inr ⟨fun W => (Question.nanBits .f64 x y).cut (W.tape W.drawn (.nanBits .f64 x y)), fun W => ?_⟩
    have h' : FloatKind.f64.format.add x y = none := h
    simp [binOp, Op.floatArith, h', Question.forced]

/-- A histogram at block g: its bounds at a (k of them), its counts, cs, in block c. -/
structure Hist (w : World) (g c : Nat) (a : Option Addr) (k kc : Nat) (fs : List Nat) (cs : List Int) : Prop where
  apart : g ≠ c
  box : ∃ s, w.heap[g]? = some (.cells #[.slice a k kc, .slice (some ⟨c, 0, none⟩) (k + 1) (k + 1), .float .f64 s] 66 (0, 0))
  row : w.heap[c]? = some (.cells (cs.map (Value.int .u64)).toArray 26 (0, 0))
  len : cs.length = k + 1
  bounds : 0 < k → ∃ b, a = some ⟨b, 0, none⟩ ∧ b ≠ g ∧ b ≠ c ∧ ∀ i, i < k → w.cell? ⟨b, 0 + i, none⟩ = some (.float .f64 (fs.getD i 0))

theorem search_any {w : World} {g c : Nat} {a : Option Addr} {k kc : Nat} {fs : List Nat} {cs : List Int} (h : Hist w g c a k kc fs cs) (hk : k ≤ 8) (v : Nat) :
    Calls Ybaf.prog 21 #[.slice a k kc, .float .f64 v] w (Found k w) := by
  by_cases h0 : 0 < k
  · obtain ⟨b, rfl, _, _, hc⟩ := h.bounds h0
    exact search_row b 0 k kc fs v w hk hc
  · obtain rfl : k = 0 := by omega
    exact search_none a kc v w

theorem Hist.step {w : World} {g c : Nat} {a : Option Addr} {k kc : Nat} {fs : List Nat} {cs : List Int} (h : Hist w g c a k kc fs cs) (i : Nat) (y : Int) (r : Nat) :
    Hist ((w.setCell ⟨c, i, none⟩ (.int .u64 y)).setCell ⟨g, 2, none⟩ (.float .f64 r)) g c a k kc fs (cs.set i y) := by
  have hgc := h.apart
  refine ⟨h.apart, ?_, ?_, by simpa using h.len, fun hp => ?_⟩
  · obtain ⟨s, hbox⟩ := h.box
    refine ⟨r, ?_⟩
    have h1 : (w.setCell ⟨c, i, none⟩ (.int .u64 y)).heap[g]? = _ := (heap_setCell_other w ⟨c, i, none⟩ g _ (by simpa using hgc)).trans hbox
    rw [heap_setCell_same _ g 2 _ 66 _ h1]
    simp
  · rw [heap_setCell_other _ ⟨g, 2, none⟩ c _ (by simpa using fun e => hgc e.symm), heap_setCell_same w c i _ 26 _ h.row]
    simp [List.map_set]
  · obtain ⟨b, ha, hbg, hbc, hc⟩ := h.bounds hp
    refine ⟨b, ha, hbg, hbc, fun j hj => ?_⟩
    rw [← hc j hj]
    refine World.cell?_of_block ?_
    show _ = w.heap[b]?
    rw [heap_setCell_other _ ⟨g, 2, none⟩ b _ (by simpa using hbg), heap_setCell_other w ⟨c, i, none⟩ b _ (by simpa using hbc)]

theorem Hist.drew {w : World} {g c : Nat} {a : Option Addr} {k kc : Nat} {fs : List Nat} {cs : List Int} (h : Hist w g c a k kc fs cs) : Hist w.drew g c a k kc fs cs :=
  ⟨h.apart, h.box, h.row, h.len, h.bounds⟩

theorem Hist.cell {w : World} {g c : Nat} {a : Option Addr} {k kc : Nat} {fs : List Nat} {cs : List Int} (h : Hist w g c a k kc fs cs) (i : Nat) (hi : i ≤ k) : w.cell? ⟨c, i, none⟩ = some (.int .u64 (cs.getD i 0)) := by
  have hl := h.len
  rw [cell_of_row w c i _ 26 (0, 0) h.row]
  simp [List.getD, show i < cs.length by omega]

theorem Hist.free {w : World} {g c : Nat} {a : Option Addr} {k kc : Nat} {fs : List Nat} {cs : List Int} (h : Hist w g c a k kc fs cs) (i : Nat) : w.frozen? ⟨c, i, none⟩ = false :=
  frozen_of_row w c i _ 26 h.row

/-- What Observe does: one count goes up by one (wrapping); the sum is some float. -/
def Seen (w : World) (g c : Nat) (a : Option Addr) (k kc : Nat) (fs : List Nat) (cs : List Int) (e : Ending) (w' : World) : Prop :=
  e = .returned (.tuple #[]) ∧ (∃ i, i ≤ k ∧ Hist w' g c a k kc fs (cs.set i (IntKind.u64.wrap (cs.getD i 0 + 1)))) ∧ ∀ B, B ≤ g → B ≤ c → Below B w w'

set_option maxHeartbeats 1000000 in
theorem observe (w : World) (g c : Nat) (a : Option Addr) (k kc : Nat) (fs : List Nat) (cs : List Int) (v : Nat) (hk : k ≤ 8) (h : Hist w g c a k kc fs cs) :
    Calls Ybaf.prog 8 #[.pointer (some ⟨g, 0, none⟩), .float .f64 v] w (Seen w g c a k kc fs cs) := by
  obtain ⟨s, hbox⟩ := h.box
  have hg0 : w.cell? ⟨g, 0, none⟩ = some (.slice a k kc) := by simp [World.cell?, hbox]
  have hg1 : w.cell? ⟨g, 1, none⟩ = some (.slice (some ⟨c, 0, none⟩) (k + 1) (k + 1)) := by simp [World.cell?, hbox]
  have hg2 : w.cell? ⟨g, 2, none⟩ = some (.float .f64 s) := by simp [World.cell?, hbox]
  have hgf : w.frozen? ⟨g, 2, none⟩ = false := by simp [World.frozen?, hbox]
  have hne : ¬ c = g := fun e => h.apart e.symm
  clear hbox
  rcases add_any s v with ⟨r, hadd⟩ | ⟨R, hadd⟩
  · go_enter Ybaf.func8, Ybaf.ntmps8
    go_wp2_with fail
    refine (search_any h hk v).mono ?_
    rintro e w' ⟨i, hi, f, rfl, hw'⟩
    subst w'
    have hci := h.cell i hi
    have hfi := h.free i
    go_wp2
    go_end0
    exact ⟨rfl, ⟨i, hi, by rw [List.getD_eq_getElem?_getD]; exact h.step i _ _⟩, fun B h1 h2 => ((Below.refl _ _).setCell h2 _).setCell h1 _⟩
  · go_enter Ybaf.func8, Ybaf.ntmps8
    go_wp2_with fail
    refine (search_any h hk v).mono ?_
    rintro e w' ⟨i, hi, f, rfl, hw'⟩
    subst w'
    have hci := h.cell i hi
    have hfi := h.free i
    go_wp2
    go_end0
    exact ⟨rfl, ⟨i, hi, by rw [List.getD_eq_getElem?_getD]; exact (h.step i _ _).drew⟩, fun B h1 h2 => (((Below.refl _ _).setCell h2 _).setCell h1 _).drew⟩
end Go.Proofs.YbulkdqpyFmt.lawO
