/-
  The plain law: sums at 64 bits.
-/
import Derived.Test.Qxb6630741aCount
namespace Go.Proofs.Qxb6630741a

theorem wrapU (n : Int) : IntKind.u64.wrap n = n % 18446744073709551616 := by simp [IntKind.wrap, IntKind.bits, IntKind.signed]

theorem sum_from (zs : List Int) (t : Int) : zs.foldl (fun t z => IntKind.u64.wrap (t + z)) (t % 18446744073709551616) = (t + zs.sum) % 18446744073709551616 := by
  induction zs generalizing t with
  | nil => simp
  | cons z r ih =>
    rw [List.foldl_cons, wrapU, List.sum_cons, Int.emod_add_emod, ih, Int.add_assoc]

theorem sumU_sum (zs : List Int) : sumU zs = zs.sum % 18446744073709551616 := by
  have h := sum_from zs 0
  rw [Int.zero_add] at h
  exact h

theorem sumU_one (z : Int) (h0 : 0 ≤ z) (h1 : z ≤ 18446744073709551615) : sumU [z] = z := by
  rw [sumU_sum]; simp; omega

theorem sumU_split (zs : List Int) (k : Nat) : IntKind.u64.wrap (sumU (zs.take k) + sumU (zs.drop k)) = sumU zs := by
  have h : zs.sum = (zs.take k).sum + (zs.drop k).sum := by rw [← List.sum_append, List.take_append_drop]
  rw [wrapU, sumU_sum, sumU_sum, sumU_sum, h, ← Int.add_emod]

theorem sumU_zeros (n : Nat) : sumU (List.replicate n 0) = 0 := by
  rw [sumU_sum]
  have : (List.replicate n (0 : Int)).sum = 0 := by
    induction n with
    | zero => rfl
    | succ k ih => rw [List.replicate_succ, List.sum_cons, ih]; rfl
  rw [this]; rfl

theorem sum_set (zs : List Int) (i : Nat) (h : i < zs.length) (v : Int) : (zs.set i v).sum = zs.sum + (v - zs.getD i 0) := by
  induction zs generalizing i with
  | nil => simp at h
  | cons z r ih =>
    cases i with
    | zero => simp; omega
    | succ j =>
      have := ih j (by simpa using h)
      simp at this ⊢
      omega

theorem sumU_more (zs : List Int) (i : Nat) (h : i < zs.length) : sumU (zs.set i (IntKind.u64.wrap (zs.getD i 0 + 1))) = IntKind.u64.wrap (sumU zs + 1) := by
  rw [wrapU, wrapU, sumU_sum, sumU_sum, sum_set zs i h]
  omega
end Go.Proofs.Qxb6630741a
