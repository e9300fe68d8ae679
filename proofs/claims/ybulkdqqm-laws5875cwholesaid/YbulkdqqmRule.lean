/- prefixedRule (function 5) of package config, by contracts of strings.CutPrefix, strings.TrimPrefix where what is cut is one byte. -/
import Derived.Test.YbulkdqqmRows
import Derived.WalkKit
import Derived.WalkSpells
import Derived.WalkLawsBesides
import Derived.ProofKit
import Derived.Lib.Strings
namespace Go.Proofs.Ybulkdqqm.lawC
open Go.ChangeShapes Go.WideShapes Go.ChangeAt Go.RowKit

/-- Does s begin with the byte c? -/
def hd (s : ByteArray) (c : UInt8) : Bool := s.data.toList.head? == some c
/-- s without its first byte, where that is c. -/
def cut (s : ByteArray) (c : UInt8) : ByteArray := if hd s c then s.extract 1 s.size else s
/-- The option's name, its sign taken off. -/
def bare (s : ByteArray) : ByteArray := if hd s 45 then s.extract 1 s.size else cut s 43
/-- The rule. -/
def rule (s v : ByteArray) : Value := .agg #[.string (cut (bare s) 33), .string v, .bool (hd s 45), .bool (hd (bare s) 33)]

theorem hd_empty (s : ByteArray) (c : UInt8) (h : ¬ 0 < s.size) : hd s c = false := by
  have h1 : s.data.toList = [] := List.eq_nil_of_length_eq_zero (by simpa using h)
  simp [hd, h1]

theorem hd_at (s : ByteArray) (c : UInt8) (h : 0 < s.size) : hd s c = (s[0] == c) := by
  have h1 : s.data.toList.head? = some s[0] := by
    rw [List.head?_eq_getElem?]
    have : 0 < s.data.toList.length := by simpa using h
    rw [List.getElem?_eq_getElem this]
    rfl
  simp [hd, h1]

theorem int_eq (a c : UInt8) : ((a.toNat : Int) == (c.toNat : Int)) = (a == c) := by
  rw [Bool.eq_iff_iff]
  simp
  constructor
  · intro h; exact UInt8.toNat_inj.1 (by omega)
  · rintro rfl; rfl

theorem hd_int (s : ByteArray) (c : UInt8) (h : 0 < s.size) : hd s c = ((s[0].toNat : Int) == (c.toNat : Int)) := by
  rw [hd_at s c h, int_eq]

theorem extract_one (s : ByteArray) (c : UInt8) (h : 0 < s.size) : ((s.extract 0 1).toList == [c]) = hd s c := by
  rw [ByteArray.toList_eq, Lib.extract_data]
  unfold hd
  have hl : 0 < s.data.toList.length := by simpa using h
  generalize s.data.toList = l at hl
  cases l with
  | nil => simp at hl
  | cons x xs =>
    rw [Bool.eq_iff_iff]
    simp

theorem has_any (s : ByteArray) (c : UInt8) (w : World) (hs : s.size ≤ 2000000) :
    Calls Yba.prog 11 #[.string s, .string ⟨#[c]⟩] w fun e w' => e = .returned (.bool (hd s c)) ∧ w' = w := by
  by_cases h0 : 0 < s.size
  · have he := extract_one s c h0
    have HE : Hid _ := he
    clear he
    go_enter Yba.func11, Yba.ntmps11
    go_wp2
    go_ret
    exact ⟨by rw [← HE.out]; rfl, rfl⟩
  · rw [hd_empty s c h0]
    go_enter Yba.func11, Yba.ntmps11
    go_wp2
    go_ret
    exact ⟨rfl, rfl⟩

theorem cut_any (s : ByteArray) (c : UInt8) (w : World) (hs : s.size ≤ 2000000) :
    Calls Yba.prog 7 #[.string s, .string ⟨#[c]⟩] w fun e w' => e = .returned (.tuple #[.string (cut s c), .bool (hd s c)]) ∧ w' = w := by
  have hpos : hd s c = true → 0 < s.size := fun h => by
    by_cases h0 : 0 < s.size
    · exact h0
    · rw [hd_empty s c h0] at h; cases h
  unfold cut
  have hcall := has_any s c w hs
  cases hh : hd s c
  · rw [hh] at hcall
    go_enter Yba.func7, Yba.ntmps7
    go_wp2_with (first | (go_at_call 11; refine hcall.mono ?_; rintro e w' ⟨rfl, rfl⟩) | go_in)
    go_ret2
    exact ⟨rfl, rfl⟩
  · rw [hh] at hcall
    have h0 := hpos hh
    go_enter Yba.func7, Yba.ntmps7
    go_wp2_with (first | (go_at_call 11; refine hcall.mono ?_; rintro e w' ⟨rfl, rfl⟩) | go_in)
    go_ret2
    exact ⟨rfl, rfl⟩

theorem trim_any (s : ByteArray) (c : UInt8) (w : World) (hs : s.size ≤ 2000000) :
    Calls Yba.prog 8 #[.string s, .string ⟨#[c]⟩] w fun e w' => e = .returned (.string (cut s c)) ∧ w' = w := by
  have hpos : hd s c = true → 0 < s.size := fun h => by
    by_cases h0 : 0 < s.size
    · exact h0
    · rw [hd_empty s c h0] at h; cases h
  unfold cut
  have hcall := has_any s c w hs
  cases hh : hd s c
  · rw [hh] at hcall
    go_enter Yba.func8, Yba.ntmps8
    go_wp2_with (first | (go_at_call 11; refine hcall.mono ?_; rintro e w' ⟨rfl, rfl⟩) | go_in)
    go_ret
    exact ⟨rfl, rfl⟩
  · rw [hh] at hcall
    have h0 := hpos hh
    go_enter Yba.func8, Yba.ntmps8
    go_wp2_with (first | (go_at_call 11; refine hcall.mono ?_; rintro e w' ⟨rfl, rfl⟩) | go_in)
    go_ret
    exact ⟨rfl, rfl⟩

theorem cut_size (s : ByteArray) (c : UInt8) : (cut s c).size ≤ s.size := by
  unfold cut
  split
  · simp
  · exact Nat.le_refl _

theorem prefixed (s v : ByteArray) (w : World) (hs : s.size ≤ 2000000) :
    Calls Yba.prog 5 #[.string s, .string v] w fun e w' => e = .returned (rule s v) ∧ Below w.heap.size w w' := by
  cases hh : hd s 45
  · have hb : bare s = cut s 43 := by simp [bare, hh]
    have hr : rule s v = .agg #[.string (cut (cut s 43) 33), .string v, .bool false, .bool (hd (cut s 43) 33)] := by rw [rule, hb, hh]
    rw [hr]
    have hcut : cut s 45 = s := by simp [cut, hh]
    have h1 := cut_size s 43
    have HC : Hid (cut s 45 = s) := hcut
    have HH : Hid (hd s 45 = false) := hh
    clear hr hb hcut hh
    go_enter Yba.func5, Yba.ntmps5
    go_wp2_with fail
    refine (cut_any s 45 _ hs).mono ?_
    rintro e w' ⟨rfl, hw'⟩
    subst w'
    rw [HC.out, HH.out]
    go_wp2_with fail
    refine (trim_any s 43 _ hs).mono ?_
    rintro e w' ⟨rfl, hw'⟩
    subst w'
    go_wp2_with fail
    refine (cut_any (cut s 43) 33 _ (by omega)).mono ?_
    rintro e w' ⟨rfl, hw'⟩
    subst w'
    go_wp2
    exact bodyPost_ret (v := .agg #[.string (cut (cut s 43) 33), .string v, .bool false, .bool (hd (cut s 43) 33)]) (by simp [results, Yba.results5, go_sem]) rfl ⟨rfl, ((Below.refl _ _).alloc (Nat.le_refl _) _).alloc (by simp) _⟩
  · have hb : bare s = cut s 45 := by simp [bare, cut, hh]
    have hr : rule s v = .agg #[.string (cut (cut s 45) 33), .string v, .bool true, .bool (hd (cut s 45) 33)] := by rw [rule, hb, hh]
    rw [hr]
    have h1 := cut_size s 45
    have HH : Hid (hd s 45 = true) := hh
    clear hr hb hh
    go_enter Yba.func5, Yba.ntmps5
    go_wp2_with fail
    refine (cut_any s 45 _ hs).mono ?_
    rintro e w' ⟨rfl, hw'⟩
    subst w'
    rw [HH.out]
    go_wp2_with fail
    refine (cut_any (cut s 45) 33 _ (by omega)).mono ?_
    rintro e w' ⟨rfl, hw'⟩
    subst w'
    go_wp2
    exact bodyPost_ret (v := .agg #[.string (cut (cut s 45) 33), .string v, .bool true, .bool (hd (cut s 45) 33)]) (by simp [results, Yba.results5, go_sem]) rfl ⟨rfl, ((Below.refl _ _).alloc (Nat.le_refl _) _).alloc (by simp) _⟩
end Go.Proofs.Ybulkdqqm.lawC
