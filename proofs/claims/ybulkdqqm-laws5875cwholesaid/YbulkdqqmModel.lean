/- zzs5875cmodel (function 6): the same rule. -/
import Derived.Test.YbulkdqqmRule
namespace Go.Proofs.Ybulkdqqm.lawC
open Go.ChangeShapes Go.WideShapes Go.ChangeAt Go.RowKit

theorem size_rest (s : ByteArray) : (s.extract 1 s.size).size = s.size - 1 := by simp

/-- The rule, its four parts given. -/
theorem rule_is (s v t : ByteArray) (x : ByteArray) (r i : Bool) (hr : hd s 45 = r) (hb : bare s = t) (hi : hd t 33 = i) (hx : cut t 33 = x) : rule s v = .agg #[.string x, .string v, .bool r, .bool i] := by
  subst hr; subst hb; subst hi; subst hx; rfl

theorem hd_yes (s : ByteArray) (c : UInt8) (n : Int) (h : 0 < s.size) (hn : (c.toNat : Int) = n) (b : Bool) (e : ((s[0].toNat : Int) == n) = b) : hd s c = b := by
  rw [hd_int s c h, hn, e]

set_option maxRecDepth 100000 in
set_option maxHeartbeats 4000000 in
theorem model (s v : ByteArray) (w : World) (hs : s.size ≤ 2000000) :
    Calls Yba.prog 6 #[.string s, .string v] w fun e w' => e = .returned (rule s v) ∧ Below w.heap.size w w' := by
  by_cases h0 : 0 < s.size
  · cases e45 : ((s[0].toNat : Int) == 45)
    · cases e43 : ((s[0].toNat : Int) == 43)
      · cases e33 : ((s[0].toNat : Int) == 33)
        · have q45 := hd_yes s 45 45 h0 rfl _ e45
          have q43 := hd_yes s 43 43 h0 rfl _ e43
          have q33 := hd_yes s 33 33 h0 rfl _ e33
          rw [rule_is s v s s false false q45 (by simp [bare, cut, q45, q43]) q33 (by simp [cut, q33])]
          clear q45 q43 q33
          go_enter Yba.func6, Yba.ntmps6
          go_wp2
          exact bodyPost_ret (v := .agg #[.string s, .string v, .bool false, .bool false]) (by simp [results, Yba.results6, go_sem]) rfl ⟨rfl, ((Below.refl _ _).alloc (Nat.le_refl _) _).alloc (by simp) _⟩
        · have q45 := hd_yes s 45 45 h0 rfl _ e45
          have q43 := hd_yes s 43 43 h0 rfl _ e43
          have q33 := hd_yes s 33 33 h0 rfl _ e33
          rw [rule_is s v s (s.extract 1 s.size) false true q45 (by simp [bare, cut, q45, q43]) q33 (by simp [cut, q33])]
          clear q45 q43 q33
          go_enter Yba.func6, Yba.ntmps6
          go_wp2
          exact bodyPost_ret (v := .agg #[.string (s.extract 1 s.size), .string v, .bool false, .bool true]) (by simp [results, Yba.results6, go_sem]) rfl ⟨rfl, ((Below.refl _ _).alloc (Nat.le_refl _) _).alloc (by simp) _⟩
      · have hz := size_rest s
        by_cases h2 : 0 < s.size - 1
        · have h3 : 0 < (s.extract 1 s.size).size := by rw [hz]; exact h2
          cases e33 : (((s.extract 1 s.size)[0].toNat : Int) == 33)
          · have q33 := hd_yes (s.extract 1 s.size) 33 33 h3 rfl _ e33
            have q45 := hd_yes s 45 45 h0 rfl _ e45
            have q43 := hd_yes s 43 43 h0 rfl _ e43
            rw [rule_is s v (s.extract 1 s.size) (s.extract 1 s.size) false false q45 (by simp [bare, cut, q45, q43]) q33 (by simp [cut, q33])]
            clear q45 q43 q33 hz
            go_enter Yba.func6, Yba.ntmps6
            go_wp2
            exact bodyPost_ret (v := .agg #[.string (s.extract 1 s.size), .string v, .bool false, .bool false]) (by simp [results, Yba.results6, go_sem]) rfl ⟨rfl, ((Below.refl _ _).alloc (Nat.le_refl _) _).alloc (by simp) _⟩
          · have q33 := hd_yes (s.extract 1 s.size) 33 33 h3 rfl _ e33
            have q45 := hd_yes s 45 45 h0 rfl _ e45
            have q43 := hd_yes s 43 43 h0 rfl _ e43
            rw [rule_is s v (s.extract 1 s.size) ((s.extract 1 s.size).extract 1 (s.extract 1 s.size).size) false true q45 (by simp [bare, cut, q45, q43]) q33 (by simp [cut, q33])]
            clear q45 q43 q33 hz
            go_enter Yba.func6, Yba.ntmps6
            go_wp2
            exact bodyPost_ret (v := .agg #[.string ((s.extract 1 s.size).extract 1 (s.extract 1 s.size).size), .string v, .bool false, .bool true]) (by simp [results, Yba.results6, go_sem]) rfl ⟨rfl, ((Below.refl _ _).alloc (Nat.le_refl _) _).alloc (by simp) _⟩
        · have q33 := hd_empty (s.extract 1 s.size) 33 (by rw [hz]; exact h2)
          have q45 := hd_yes s 45 45 h0 rfl _ e45
          have q43 := hd_yes s 43 43 h0 rfl _ e43
          rw [rule_is s v (s.extract 1 s.size) (s.extract 1 s.size) false false q45 (by simp [bare, cut, q45, q43]) q33 (by simp [cut, q33])]
          clear q45 q43 q33 hz
          go_enter Yba.func6, Yba.ntmps6
          go_wp2
          exact bodyPost_ret (v := .agg #[.string (s.extract 1 s.size), .string v, .bool false, .bool false]) (by simp [results, Yba.results6, go_sem]) rfl ⟨rfl, ((Below.refl _ _).alloc (Nat.le_refl _) _).alloc (by simp) _⟩
    · have hz := size_rest s
      by_cases h2 : 0 < s.size - 1
      · have h3 : 0 < (s.extract 1 s.size).size := by rw [hz]; exact h2
        cases e33 : (((s.extract 1 s.size)[0].toNat : Int) == 33)
        · have q33 := hd_yes (s.extract 1 s.size) 33 33 h3 rfl _ e33
          have q45 := hd_yes s 45 45 h0 rfl _ e45
          rw [rule_is s v (s.extract 1 s.size) (s.extract 1 s.size) true false q45 (by simp [bare, q45]) q33 (by simp [cut, q33])]
          clear q45 q33 hz
          go_enter Yba.func6, Yba.ntmps6
          go_wp2
          exact bodyPost_ret (v := .agg #[.string (s.extract 1 s.size), .string v, .bool true, .bool false]) (by simp [results, Yba.results6, go_sem]) rfl ⟨rfl, ((Below.refl _ _).alloc (Nat.le_refl _) _).alloc (by simp) _⟩
        · have q33 := hd_yes (s.extract 1 s.size) 33 33 h3 rfl _ e33
          have q45 := hd_yes s 45 45 h0 rfl _ e45
          rw [rule_is s v (s.extract 1 s.size) ((s.extract 1 s.size).extract 1 (s.extract 1 s.size).size) true true q45 (by simp [bare, q45]) q33 (by simp [cut, q33])]
          clear q45 q33 hz
          go_enter Yba.func6, Yba.ntmps6
          go_wp2
          exact bodyPost_ret (v := .agg #[.string ((s.extract 1 s.size).extract 1 (s.extract 1 s.size).size), .string v, .bool true, .bool true]) (by simp [results, Yba.results6, go_sem]) rfl ⟨rfl, ((Below.refl _ _).alloc (Nat.le_refl _) _).alloc (by simp) _⟩
      · have q33 := hd_empty (s.extract 1 s.size) 33 (by rw [hz]; exact h2)
        have q45 := hd_yes s 45 45 h0 rfl _ e45
        rw [rule_is s v (s.extract 1 s.size) (s.extract 1 s.size) true false q45 (by simp [bare, q45]) q33 (by simp [cut, q33])]
        clear q45 q33 hz
        go_enter Yba.func6, Yba.ntmps6
        go_wp2
        exact bodyPost_ret (v := .agg #[.string (s.extract 1 s.size), .string v, .bool true, .bool false]) (by simp [results, Yba.results6, go_sem]) rfl ⟨rfl, ((Below.refl _ _).alloc (Nat.le_refl _) _).alloc (by simp) _⟩
  · have q45 := hd_empty s 45 h0
    have q43 := hd_empty s 43 h0
    have q33 := hd_empty s 33 h0
    rw [rule_is s v s s false false q45 (by simp [bare, cut, q45, q43]) q33 (by simp [cut, q33])]
    clear q45 q43 q33
    go_enter Yba.func6, Yba.ntmps6
    go_wp2
    exact bodyPost_ret (v := .agg #[.string s, .string v, .bool false, .bool false]) (by simp [results, Yba.results6, go_sem]) rfl ⟨rfl, ((Below.refl _ _).alloc (Nat.le_refl _) _).alloc (by simp) _⟩
end Go.Proofs.Ybulkdqqm.lawC
