/- The plain mathematics of 'metrics.LawS5874AWhole': wrapping sums of a list of numbers, forwards and backwards. No program in sight. -/
import Derived.WalkKit
namespace Go.Proofs.Ybulkdqpy.lawA

/-- The wrapping sum, from the left. -/
def tot (zs : List Int) : Int := zs.foldl (fun a b => IntKind.u64.wrap (a + b)) 0

theorem wrap_u64 (n : Int) : IntKind.u64.wrap n = n % 18446744073709551616 := by
  simp [IntKind.wrap, IntKind.signed, IntKind.bits]

theorem foldl_wrap (zs : List Int) (s : Int) : (zs.foldl (fun a b => IntKind.u64.wrap (a + b)) s) % 18446744073709551616 = (s + zs.sum) % 18446744073709551616 := by
  induction zs generalizing s with
  | nil => simp
  | cons z zs ih =>
    simp only [List.foldl_cons, List.sum_cons]
    rw [ih, wrap_u64]
    omega

theorem foldl_in (zs : List Int) (s : Int) (h : s % 18446744073709551616 = s) : (zs.foldl (fun a b => IntKind.u64.wrap (a + b)) s) % 18446744073709551616 = zs.foldl (fun a b => IntKind.u64.wrap (a + b)) s := by
  induction zs generalizing s with
  | nil => simpa using h
  | cons z zs ih =>
    simp only [List.foldl_cons]
    exact ih _ (by rw [wrap_u64]; omega)

theorem tot_in (zs : List Int) : tot zs % 18446744073709551616 = tot zs := foldl_in zs 0 rfl

theorem tot_eq (zs : List Int) : tot zs = zs.sum % 18446744073709551616 := by
  rw [← tot_in, tot, foldl_wrap]; simp

theorem tot_reverse (zs : List Int) : tot zs.reverse = tot zs := by
  rw [tot_eq, tot_eq, List.sum_reverse]

theorem tot_take_succ (zs : List Int) (k : Nat) (h : k < zs.length) : tot (zs.take (k + 1)) = IntKind.u64.wrap (tot (zs.take k) + zs[k]?.getD 0) := by
  rw [List.take_succ_eq_append_getElem h, tot, List.foldl_append]
  simp [tot, h]

theorem tot_rev_take_succ (zs : List Int) (k : Nat) (h : k < zs.length) :
    tot (zs.reverse.take (k + 1)) = IntKind.u64.wrap (tot (zs.reverse.take k) + zs[zs.length - k - 1]?.getD 0) := by
  rw [tot_take_succ _ _ (by simpa using h)]
  rw [List.getElem?_reverse h]
  rw [show zs.length - 1 - k = zs.length - k - 1 by omega]

theorem tot_bd (zs : List Int) : 0 ≤ tot zs ∧ tot zs ≤ 18446744073709551615 := by
  rw [tot_eq]; omega
end Go.Proofs.Ybulkdqpy.lawA
