/- cli.Positive (function 4) and 'cli.LawS5878CWhole' (function 3): true, and nothing that was there is written. -/
import Derived.Test.YbulkdqscFmtStr
import Derived.Stop.CallBack
import Derived.Stop.IfaceNil
namespace Go.Proofs.YbulkdqscFmt.lawC
open Go.ChangeShapes Go.WideShapes Go.ChangeAt Go.RowKit Go.Extern.Stop Go.Stop Go.Extern

theorem call6 (args : Array Value) (w : World) : (callFunc 6 args).run Ybaf.prog w = (FmtCalls.errorf #[9, 28] #[23] args).run Ybaf.prog w :=
  run_callFunc_next Ybaf.func6 (by kernel_rfl) (by kernel_rfl) (by kernel_rfl) args w
theorem guardF (name : String) (w : World) : (FmtStop.guard name).run Ybaf.prog w = .ok () w := by kernel_rfl
theorem nextTurns : Extern.next FmtCalls.turnsRow = some (FmtCalls.begun #[] #[]) := by kernel_rfl
theorem nextReturned : Extern.next FmtCalls.returnedRow = some (FmtCalls.returned #[] #[]) := by kernel_rfl
theorem fmt0 : FmtStop.printed? ⟨#[45, 45, 37, 115, 32, 37, 118, 58, 32, 119, 97, 110, 116, 32, 97, 32, 100, 117, 114, 97, 116, 105, 111, 110, 32, 97, 98, 111, 118, 101, 32, 48]⟩ 2 = some [(0, 115, false), (1, 118, false)] := by kernel_rfl
theorem fmt0r (w : World) : (FmtDoors.printed ⟨#[45, 45, 37, 115, 32, 37, 118, 58, 32, 119, 97, 110, 116, 32, 97, 32, 100, 117, 114, 97, 116, 105, 111, 110, 32, 97, 98, 111, 118, 101, 32, 48]⟩ 2).run Ybaf.prog w = .ok [(0, 115, false), (1, 118, false)] w := by kernel_rfl
def shape9 : List UInt8 := [12, 6, 0, 0, 0, 0, 0, 0, 0, 115, 116, 114, 105, 110, 103]
theorem act9 (name : String) (x : Value) (w : World) : (FmtCalls.act name true 115 false (.iface 9 x)).run Ybaf.prog w = .ok (.closed true) w := by kernel_rfl
theorem op9 (name : String) (x : ByteArray) (w : World) : (FmtStop.operand name true 115 false (.iface 9 (.string x))).run Ybaf.prog w = .ok (shape9, FmtStop.pack x.data.toList) w := by kernel_rfl
theorem act25 (name : String) (x : Value) (w : World) : (FmtCalls.act name true 118 false (.iface 25 x)).run Ybaf.prog w = .ok (.call false) w := by kernel_rfl
theorem str25 (w : World) : (typeStr 25).run Ybaf.prog w = .ok "time.Duration" w := by kernel_rfl
theorem invokeString25 (x : Value) (w : World) : (invoke (.fn (.method "String") #[]) #[.iface 25 x]).run Ybaf.prog w = .ok (.enter 8 #[x]) w := by kernel_rfl
theorem ptr31 (w : World) : (FmtStop.ptrTo "errors.errorString").run Ybaf.prog w = .ok 31 w := by kernel_rfl
theorem elem31 (w : World) : (elemOf 31).run Ybaf.prog w = .ok 33 w := by kernel_rfl
attribute [local go_sem] call6 guardF fmt0 fmt0r act9 op9 act25 str25 ptr31 elem31

theorem positive_ok (nm : ByteArray) (d : Int) (w : World) (h : 0 < d) :
    Calls Ybaf.prog 4 #[.string nm, .int .i64 d] w fun e w' => e = .returned .nilIface ∧ w' = w := by
  go_enter Ybaf.func4, Ybaf.ntmps4
  go_wp2
  go_ret
  exact ⟨rfl, rfl⟩

/-- Some new error. -/
def Refused (w : World) (e : Ending) (w' : World) : Prop := ∃ a : Addr, e = .returned (.iface 31 (.pointer (some a))) ∧ Below w.heap.size w w'

set_option maxRecDepth 100000 in
set_option maxHeartbeats 1000000 in
theorem positive_bad (F : Interp) (nm : ByteArray) (d : Int) (w : World) (hF : F.answers w.tape) (h0 : d ≤ 0) (h1 : -9223372036854775808 ≤ d) :
    Calls Ybaf.prog 4 #[.string nm, .int .i64 d] w (Refused w) := by
  have hF' := answers_open hF
  have H1 : Hid (-9223372036854775808 ≤ d) := h1
  clear h1
  go_enter Ybaf.func4, Ybaf.ntmps4
  go_wp2
  apply rows_call nextTurns
  case hr =>
    go_simp
    exact ⟨⟨rfl, rfl, rfl⟩, rfl⟩
  case hi => exact invokeString25 _ _
  case hc =>
    refine (string_any d _ h0 H1.out).mono ?_
    rintro e w3 ⟨s, rfl, hbel⟩
    have hbw : Below w.heap.size w w3 := ((Below.refl _ _).alloc (Nat.le_refl _) _).trans (hbel.mono (by simp))
    have hF3 := answers_open (show F.answers w3.tape by rw [hbel.tape]; exact hF)
    apply rows_value nextReturned
    case hr =>
      go_simp
      exact ⟨rfl, rfl⟩
    case h =>
      go_wp2
      go_ret
      exact ⟨_, rfl, (hbw.alloc hbw.size _).drew⟩

/-- Positive refuses just where d is not above 0. -/
theorem positive_any (F : Interp) (nm : ByteArray) (d : Int) (w : World) (hF : F.answers w.tape) (h1 : -9223372036854775808 ≤ d) :
    Calls Ybaf.prog 4 #[.string nm, .int .i64 d] w fun e w' => ∃ v, e = .returned v ∧ (∀ W : World, (binOp .neq 23 v .nilIface).run Ybaf.prog W = .ok (.bool (!decide (0 < d))) W) ∧
      (∀ (W : World) (x : Operand), (eqGuard .neq 23 x (.const .nilIface) v .nilIface).run Ybaf.prog W = .ok () W) ∧ Below w.heap.size w w' := by
  by_cases h : 0 < d
  · refine (positive_ok nm d w h).mono ?_
    rintro e w' ⟨rfl, rfl⟩
    refine ⟨_, rfl, fun W => ?_, fun W x => by rw [eqGuard_nil_constR]; rfl, Below.refl _ _⟩
    rw [run_neq_nil_nil_at W 23 (by kernel_rfl), show decide (0 < d) = true by simpa using h]
    rfl
  · refine (positive_bad F nm d w hF (by omega) h1).mono ?_
    rintro e w' ⟨a, rfl, hb⟩
    refine ⟨_, rfl, fun W => ?_, fun W x => by rw [eqGuard_at_iface]; rfl, hb⟩
    rw [run_neq_iface_nil W 23 (by kernel_rfl), show decide (0 < d) = false by simpa using h]
    rfl

theorem law_all (F : Interp) (nm : ByteArray) (d : Int) (w : World) (hF : F.answers w.tape) (h1 : -9223372036854775808 ≤ d) :
    Calls Ybaf.prog 3 #[.string nm, .int .i64 d] w fun e w' => e = .returned (.bool true) ∧ Below w.heap.size w w' := by
  have H1 : Hid (-9223372036854775808 ≤ d) := h1
  clear h1
  go_enter Ybaf.func3, Ybaf.ntmps3
  go_wp2_with fail
  refine (positive_any F nm d w hF H1.out).mono ?_
  rintro e w1 ⟨v, rfl, hv, hv2, hb⟩
  go_wp2
  go_ret
  exact ⟨by simp, hb⟩
end Go.Proofs.YbulkdqscFmt.lawC
