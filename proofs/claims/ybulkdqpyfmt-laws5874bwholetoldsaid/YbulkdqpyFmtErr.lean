/- '(*list).checkLen' (function 10), 'listOf' (function 9) by their contracts: the road to fmt.errorf's stop. -/
import Derived.Test.YbulkdqpyFmtRows
import Derived.WalkKit
import Derived.WalkSpells
import Derived.WalkLawsBesides
import Derived.ProofKit
import Derived.Stop.CallBack
import Derived.Stop.IfaceNil
namespace Go.Proofs.YbulkdqpyFmt.lawB
open Go.RowKit Go.Extern.Stop Go.Stop Go.Extern

theorem call35 (args : Array Value) (w : World) : (callFunc 35 args).run Ybaf.prog w = (FmtCalls.errorf #[9, 103] #[38] args).run Ybaf.prog w :=
  run_callFunc_next Ybaf.func35 (by kernel_rfl) (by kernel_rfl) (by kernel_rfl) args w
theorem guardF (name : String) (w : World) : (FmtStop.guard name).run Ybaf.prog w = .ok () w := by kernel_rfl
theorem nextTurns : Extern.next FmtCalls.turnsRow = some (FmtCalls.begun #[] #[]) := by kernel_rfl
theorem fmt0 : FmtStop.printed? ⟨#[37, 100, 32, 101, 108, 101, 109, 101, 110, 116, 115, 44, 32, 111, 118, 101, 114, 32, 116, 104, 101, 32, 108, 105, 109, 105, 116, 32, 111, 102, 32, 37, 100]⟩ 2 = some [(0, 100, false), (1, 100, false)] := by kernel_rfl
theorem fmt0r (w : World) : (FmtDoors.printed ⟨#[37, 100, 32, 101, 108, 101, 109, 101, 110, 116, 115, 44, 32, 111, 118, 101, 114, 32, 116, 104, 101, 32, 108, 105, 109, 105, 116, 32, 111, 102, 32, 37, 100]⟩ 2).run Ybaf.prog w = .ok [(0, 100, false), (1, 100, false)] w := by kernel_rfl
def shape3 : List UInt8 := [5, 3, 0, 0, 0, 0, 0, 0, 0, 105, 110, 116]
theorem act3 (name : String) (x : Value) (w : World) : (FmtCalls.act name true 100 false (.iface 3 x)).run Ybaf.prog w = .ok (.closed true) w := by kernel_rfl
theorem op3 (name : String) (x : Int) (w : World) : (FmtStop.operand name true 100 false (.iface 3 (.int .i64 x))).run Ybaf.prog w = .ok (shape3, Go.Extern.Stop.digits 8 (x % 2 ^ 64).toNat) w := by kernel_rfl
theorem ptr131 (w : World) : (FmtStop.ptrTo "errors.errorString").run Ybaf.prog w = .ok 131 w := by kernel_rfl
theorem elem131 (w : World) : (elemOf 131).run Ybaf.prog w = .ok 133 w := by kernel_rfl
attribute [local go_sem] call35 guardF fmt0 fmt0r act3 op3 ptr131 elem131

theorem check_ok (g : Nat) (limit n : Int) (w : World) (hg : w.cell? ⟨g, 1, none⟩ = some (.int .i64 limit)) (h : n ≤ limit) :
    Calls Ybaf.prog 10 #[.pointer (some ⟨g, 0, none⟩), .int .i64 n] w fun e w' => e = .returned .nilIface ∧ w' = w := by
  go_enter Ybaf.func10, Ybaf.ntmps10
  go_wp2
  go_ret
  exact ⟨rfl, rfl⟩

set_option maxHeartbeats 800000 in
theorem check_bad (F : Interp) (g : Nat) (limit n : Int) (w : World) (hF : F.answers w.tape) (hg : w.cell? ⟨g, 1, none⟩ = some (.int .i64 limit)) (h : limit < n) :
    Calls Ybaf.prog 10 #[.pointer (some ⟨g, 0, none⟩), .int .i64 n] w fun e w' => e = .returned (.iface 131 (.pointer (some ⟨w.heap.size + 1, 0, none⟩))) ∧ Below w.heap.size w w' := by
  have hF' := answers_open hF
  go_enter Ybaf.func10, Ybaf.ntmps10
  go_wp2
  apply rows_value nextTurns
  case hr =>
    go_simp
    exact ⟨rfl, rfl⟩
  case h =>
    go_wp2
    go_ret
    exact ⟨rfl, (((Below.refl _ _).alloc (Nat.le_refl _) _).alloc (by simp) _).drew⟩

theorem check_any (F : Interp) (g : Nat) (limit n : Int) (w : World) (hF : F.answers w.tape) (hg : w.cell? ⟨g, 1, none⟩ = some (.int .i64 limit)) :
    Calls Ybaf.prog 10 #[.pointer (some ⟨g, 0, none⟩), .int .i64 n] w fun e w' => ∃ v, e = .returned v ∧ (∀ W : World, (binOp .neq 38 v .nilIface).run Ybaf.prog W = .ok (.bool (decide (limit < n))) W) ∧
      (∀ (W : World) (x : Operand), (eqGuard .neq 38 x (.const .nilIface) v .nilIface).run Ybaf.prog W = .ok () W) ∧ Below w.heap.size w w' := by
  by_cases h : n ≤ limit
  · refine (check_ok g limit n w hg h).mono ?_
    rintro e w' ⟨rfl, rfl⟩
    refine ⟨_, rfl, fun W => ?_, fun W x => by rw [eqGuard_nil_constR]; rfl, Below.refl _ _⟩
    rw [run_neq_nil_nil_at W 38 (by kernel_rfl), show decide (limit < n) = false by simpa using h]
  · refine (check_bad F g limit n w hF hg (by omega)).mono ?_
    rintro e w' ⟨rfl, hb⟩
    refine ⟨_, rfl, fun W => ?_, fun W x => by rw [eqGuard_at_iface]; rfl, hb⟩
    rw [run_neq_iface_nil W 38 (by kernel_rfl), show decide (limit < n) = true by simp; omega]

theorem list_of (g : Nat) (limit : Int) (w : World) :
    Calls Ybaf.prog 9 #[.pointer (some ⟨g, 0, none⟩), .int .i64 limit] w fun e w' => e = .returned (.pointer (some ⟨w.heap.size, 0, none⟩)) ∧ w' = w.alloc (.cells #[.pointer (some ⟨g, 0, none⟩), .int .i64 limit] 41) := by
  go_enter Ybaf.func9, Ybaf.ntmps9
  go_wp2
  go_ret
  exact ⟨rfl, rfl⟩
end Go.Proofs.YbulkdqpyFmt.lawB
