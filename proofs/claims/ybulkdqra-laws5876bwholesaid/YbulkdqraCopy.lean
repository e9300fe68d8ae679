/- 'copy' between two whole rows whose elements take several cells each (the kit's laws on copy serve elements of one cell); a row of conditions, filled element by element. -/
import Derived.Test.YbulkdqraNarrow
import Derived.Laws.CopyOwn
namespace Go.Proofs.Ybulkdqra.lawB
open Go.ChangeShapes Go.WideShapes Go.ChangeAt Go.RowKit

theorem run_copy_whole {P : Program} (w : World) (dT sT ty elem : TypeId) (size g n dc : Nat) (h sc : Nat) (cur src : Array Value) (t t' : TypeId)
    (hu : P.underlying dT = some (.slice elem)) (hs : (P.info? elem).map (·.size) = some size)
    (hg : w.heap[g]? = some (.cells cur t (0, 0))) (hh : w.heap[h]? = some (.cells src t' (0, 0))) (hc : cur.size = n * size) (hsrc : src.size = n * size) (h1 : ∀ v ∈ src.toList, v.oneCell' = true) :
    (Builtin.copy_ #[dT, sT] ty #[.slice (some ⟨g, 0, none⟩) n dc, .slice (some ⟨h, 0, none⟩) n sc]).run P w = .ok (goInt n) (w.setRow g src) := by
  have hl := run_loadCells_list (P := P) w ⟨h, 0, none⟩ src.toList (fun j v hj => by
    rw [Addr.add_lit, Nat.zero_add, cell_of_row w h j src t' (0, 0) hh]
    simpa using hj)
  have hst := run_storeCells_at P g 0 t src.toList 0 cur w hg (by simp; omega) h1
  have e1 : src.toList.length = n * size := by simpa using hsrc
  rw [e1] at hl
  have e2 : (cur.toList.take (0 + 0) ++ src.toList ++ cur.toList.drop (0 + 0 + src.toList.length)).toArray = src := by
    rw [List.drop_eq_nil_of_le (by simp; omega)]
    simp
  rw [e2] at hst
  cases hq : P.info? elem with
  | none => simp [hq] at hs
  | some i =>
    have hi : i.size = size := by simpa [hq] using hs
    simp [Builtin.copy_, run_underlying hu, Builtin.lenOf, Builtin.firstCells, sizeOf, typeInfo, hq, hi, hl, hst]

theorem wpList_copy_whole {P : Program} {w : World} {ops : Array Oper} {rest : List Oper} {o : Oper} {a : Act} {Q : Exit → Act → World → Prop} (hgd : o.guard = none) (d s : Operand) (dT sT : TypeId)
    (ho : o.op = .call { callee := .builtin .copy, args := #[d, s], argTypes := #[dT, sT] }) (elem : TypeId) (size : Nat) (hu : P.underlying dT = some (.slice elem)) (hsz : (P.info? elem).map (·.size) = some size)
    (g n dc h sc : Nat) (hd : a.eval d = .slice (some ⟨g, 0, none⟩) n dc) (hs : a.eval s = .slice (some ⟨h, 0, none⟩) n sc)
    (cur src : Array Value) (t t' : TypeId) (hg : w.heap[g]? = some (.cells cur t (0, 0))) (hh : w.heap[h]? = some (.cells src t' (0, 0))) (hc : cur.size = n * size) (hsrc : src.size = n * size) (h1 : ∀ v ∈ src.toList, v.oneCell' = true)
    (hK : ∀ w', w'.heap[g]? = some (.cells src t (0, 0)) → Below g w w' → wpList P ops Q rest (a.put o.dst (goInt n)) w') : wpList P ops Q (o :: rest) a w := by
  refine wpList_plain hgd fun K hK' => ?_
  have hrun := run_copy_whole (P := P) w dT sT o.type elem size g n dc h sc cur src t t' hu hsz hg hh hc hsrc h1
  unfold Oper.wp
  simp [execOp, ho, resolve, invoke, builtin, hd, hs, hrun, Result.andThen]
  exact hK' _ _ (hK _ (setRow_heap w g cur _ t _ hg) (below_setRow (Below.refl _ _) (Nat.le_refl _) _))

theorem conds_made {w : World} {g n : Nat} {xs : List Value} (h : w.ownsRow g 28 3 (.slice (some ⟨g, 0, none⟩) n n) n xs) (R : Nat → ByteArray) (x y : Nat → Nat) : Conds w g n 0 R x y := by
  rcases h.2 with ⟨h0, _⟩ | ⟨g', cap, cur, hv, _, hh, _, _, hs, _⟩
  · simp at h0
  · simp at hv
    obtain ⟨rfl, rfl⟩ := hv
    exact ⟨cur, hh, hs, fun j hj => absurd hj (Nat.not_lt_zero _)⟩

theorem Conds.old {w : World} {g n k : Nat} {R : Nat → ByteArray} {x y : Nat → Nat} (h : Conds w g n k R x y) (o : Nat) (ho : o < n * 3) : (∃ v, w.cell? ⟨g, o, none⟩ = some v) ∧ w.frozen? ⟨g, o, none⟩ = false := by
  obtain ⟨cur, hg, hs, _⟩ := h
  refine ⟨⟨cur[o]'(by omega), ?_⟩, frozen_of_row w g o cur 28 hg⟩
  rw [cell_of_row w g o cur 28 (0, 0) hg]
  simp

theorem Conds.store {w : World} {g n k : Nat} {R : Nat → ByteArray} {x y : Nat → Nat} (h : Conds w g n k R x y) (hk : k < n) (u v : Int) (hu : u = (x k : Int)) (hv : v = (y k : Int)) :
    Conds (((w.setCell ⟨g, k * 3, none⟩ (.string (R k))).setCell ⟨g, k * 3 + 1, none⟩ (.int .i64 u)).setCell ⟨g, k * 3 + 2, none⟩ (.int .i64 v)) g n (k + 1) R x y := by
  obtain ⟨cur, hg, hs, hc⟩ := h
  have h1 := heap_setCell_same w g (k * 3) cur 28 (.string (R k)) hg
  have h2 := heap_setCell_same _ g (k * 3 + 1) _ 28 (.int .i64 u) h1
  have h3 := heap_setCell_same _ g (k * 3 + 2) _ 28 (.int .i64 v) h2
  refine ⟨_, h3, by simpa using hs, fun j hj => ?_⟩
  subst hu; subst hv
  by_cases e : j = k
  · subst e
    refine ⟨?_, ?_, ?_⟩
    · rw [Array.getElem?_setIfInBounds_ne (by omega), Array.getElem?_setIfInBounds_ne (by omega), Array.getElem?_setIfInBounds_self_of_lt (by omega)]
    · rw [Array.getElem?_setIfInBounds_ne (by omega), Array.getElem?_setIfInBounds_self_of_lt (by simp; omega)]
    · rw [Array.getElem?_setIfInBounds_self_of_lt (by simp; omega)]
  · obtain ⟨q0, q1, q2⟩ := hc j (by omega)
    refine ⟨?_, ?_, ?_⟩
    · rw [Array.getElem?_setIfInBounds_ne (by omega), Array.getElem?_setIfInBounds_ne (by omega), Array.getElem?_setIfInBounds_ne (by omega), q0]
    · rw [Array.getElem?_setIfInBounds_ne (by omega), Array.getElem?_setIfInBounds_ne (by omega), Array.getElem?_setIfInBounds_ne (by omega), q1]
    · rw [Array.getElem?_setIfInBounds_ne (by omega), Array.getElem?_setIfInBounds_ne (by omega), Array.getElem?_setIfInBounds_ne (by omega), q2]

/-- A row that is filled: its cells, each of one cell. -/
theorem Conds.row {w : World} {g n : Nat} {R : Nat → ByteArray} {x y : Nat → Nat} (h : Conds w g n n R x y) :
    ∃ cur : Array Value, w.heap[g]? = some (.cells cur 28 (0, 0)) ∧ cur.size = n * 3 ∧ (∀ v ∈ cur.toList, v.oneCell' = true) ∧
      ∀ (w' : World) (g' : Nat), w'.heap[g']? = some (.cells cur 28 (0, 0)) → Conds w' g' n n R x y := by
  obtain ⟨cur, hg, hs, hc⟩ := h
  refine ⟨cur, hg, hs, fun v hv => ?_, fun w' g' h' => ⟨cur, h', hs, hc⟩⟩
  obtain ⟨o, ho, rfl⟩ := List.getElem_of_mem hv
  have ho' : o < n * 3 := by simpa [hs] using ho
  obtain ⟨q0, q1, q2⟩ := hc (o / 3) (by omega)
  have hr : o = o / 3 * 3 ∨ o = o / 3 * 3 + 1 ∨ o = o / 3 * 3 + 2 := by omega
  have hget : cur[o]? = some (cur.toList[o]) := by simp [show o < cur.size by omega]
  rcases hr with e | e | e
  · rw [← e, hget] at q0
    rw [Option.some.inj q0]; rfl
  · rw [← e, hget] at q1
    rw [Option.some.inj q1]; rfl
  · rw [← e, hget] at q2
    rw [Option.some.inj q2]; rfl
end Go.Proofs.Ybulkdqra.lawB
