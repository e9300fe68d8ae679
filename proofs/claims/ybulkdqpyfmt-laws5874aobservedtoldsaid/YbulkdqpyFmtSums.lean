/- The plain mathematics of 'metrics.LawS5874AObserved': wrapping sums of a list of numbers, forwards and backwards. No program in sight. -/
import Derived.WalkKit
namespace Go.Proofs.YbulkdqpyFmt.lawO

/-- The wrapping sum, from the left. -/
def tot (zs : List Int) : Int := zs.foldl (fun a b => IntKind.u64.wrap (a + b)) 0

theorem wrap_u64 (n : Int) : IntKind.u64.wrap n = n % 18446744073709551616 := by
  simp [IntKind.wrap, IntKind.signed, IntKind.bits]

theorem foldl_wrap (zs : List Int) (s : Int) : (zs.foldl (fun a b => IntKind.u64.wrap (a + b)) s) % 18446744073709551616 = (s + zs.sum) % 18446744073709551616 := by
  induction zs generalizing s with
  | nil => simp
  | cons z zs ih =>
    simp only [List.foldl_cons, List.sum_cons]
    rw [ih, wrap_u64]
    omega

theorem foldl_in (zs : List Int) (s : Int) (h : s % 18446744073709551616 = s) : (zs.foldl (fun a b => IntKind.u64.wrap (a + b)) s) % 18446744073709551616 = zs.foldl (fun a b => IntKind.u64.wrap (a + b)) s := by
  induction zs generalizing s with
  | nil => simpa using h
  | cons z zs ih =>
    simp only [List.foldl_cons]
    exact ih _ (by rw [wrap_u64]; omega)

theorem tot_in (zs : List Int) : tot zs % 18446744073709551616 = tot zs := foldl_in zs 0 rfl

theorem tot_eq (zs : List Int) : tot zs = zs.sum % 18446744073709551616 := by
  rw [← tot_in, tot, foldl_wrap]; simp

theorem tot_take_succ (zs : List Int) (k : Nat) (h : k < zs.length) : tot (zs.take (k + 1)) = IntKind.u64.wrap (tot (zs.take k) + zs[k]?.getD 0) := by
  rw [List.take_succ_eq_append_getElem h, tot, List.foldl_append]
  simp [tot, h]

theorem tot_bd (zs : List Int) : 0 ≤ tot zs ∧ tot zs ≤ 18446744073709551615 := by
  rw [tot_eq]; omega
theorem sum_set (cs : List Int) (i : Nat) (y : Int) (h : i < cs.length) : (cs.set i y).sum = cs.sum - cs.getD i 0 + y := by
  induction cs generalizing i with
  | nil => simp at h
  | cons c cs ih =>
    cases i with
    | zero => simp; omega
    | succ i =>
      have := ih i (by simpa using h)
      simp at this ⊢
      omega

/-- One count goes up by one: the wrapping sum goes up by one. -/
theorem tot_step (cs : List Int) (i m : Nat) (h : i < cs.length) (ht : tot cs = (m : Int)) (hm : m < 18446744073709551615) :
    tot (cs.set i (IntKind.u64.wrap (cs.getD i 0 + 1))) = ((m + 1 : Nat) : Int) := by
  rw [tot_eq] at ht ⊢
  rw [sum_set cs i _ h, wrap_u64]
  omega

theorem tot_zeros (n : Nat) : tot (List.replicate n 0) = 0 := by
  rw [tot_eq]
  have : (List.replicate n (0 : Int)).sum = 0 := by
    induction n with
    | zero => rfl
    | succ n ih => simp [List.replicate_succ, ih]
  rw [this]
  rfl
end Go.Proofs.YbulkdqpyFmt.lawO
