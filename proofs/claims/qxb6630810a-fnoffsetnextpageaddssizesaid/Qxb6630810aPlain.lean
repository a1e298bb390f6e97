/-
  The plain law: saturated products and sums.
-/
namespace Go.Proofs.Qxb6630810a
/-- The offset: the number of items before the page, at most the greatest int. -/
def offI (n s : Int) : Int := if (n - 1) * s ≤ 9223372036854775807 then (n - 1) * s else 9223372036854775807
/-- The saturated sum. -/
def satI (a b : Int) : Int := if a + b ≤ 9223372036854775807 then a + b else 9223372036854775807

theorem lt_of_div (n s : Int) (hs : 1 ≤ s) (h : 9223372036854775807 / s < n - 1) : 9223372036854775807 < (n - 1) * s := (Int.ediv_lt_iff_lt_mul (by omega)).1 h
theorem le_of_div (n s : Int) (hs : 1 ≤ s) (h : ¬ 9223372036854775807 / s < n - 1) : (n - 1) * s ≤ 9223372036854775807 := by
  have := mt (Int.ediv_lt_iff_lt_mul (a := 9223372036854775807) (b := n - 1) (c := s) (by omega)).2 h
  omega
theorem offI_sat (n s : Int) (hs : 1 ≤ s) (h : 9223372036854775807 / s < n - 1) : offI n s = 9223372036854775807 := by
  have := lt_of_div n s hs h
  rw [offI, if_neg (by omega)]
theorem offI_ok (n s : Int) (h : (n - 1) * s ≤ 9223372036854775807) : offI n s = (n - 1) * s := by rw [offI, if_pos h]
theorem offI_bd (n s : Int) (hn : 1 ≤ n) (hs : 1 ≤ s) : 0 ≤ offI n s ∧ offI n s ≤ 9223372036854775807 := by
  have h0 : 0 ≤ (n - 1) * s := Int.mul_nonneg (by omega) (by omega)
  unfold offI
  split <;> omega
theorem offI_one (s : Int) : offI 1 s = 0 := by simp [offI]
theorem offI_unit (n : Int) (h : n ≤ 9223372036854775807) : offI n 1 = n - 1 := by rw [offI, Int.mul_one, if_pos (by omega)]
theorem offI_next (n s : Int) (hn : 1 ≤ n) (hs : 1 ≤ s) : offI (n + 1) s = satI (offI n s) s := by
  have h0 : 0 ≤ (n - 1) * s := Int.mul_nonneg (by omega) (by omega)
  have e : (n + 1 - 1) * s = (n - 1) * s + s := by
    rw [show n + 1 - 1 = (n - 1) + 1 from by omega, Int.add_mul, Int.one_mul]
  unfold offI satI
  rw [e]
  generalize (n - 1) * s = x at *
  repeat' split
  all_goals omega
theorem offI_add (n a b : Int) (hn : 1 ≤ n) (ha : 1 ≤ a) (hb : 1 ≤ b) : offI n (a + b) = satI (offI n a) (offI n b) := by
  have h1 : 0 ≤ (n - 1) * a := Int.mul_nonneg (by omega) (by omega)
  have h2 : 0 ≤ (n - 1) * b := Int.mul_nonneg (by omega) (by omega)
  unfold offI satI
  rw [Int.mul_add]
  generalize (n - 1) * a = x at *
  generalize (n - 1) * b = y at *
  repeat' split
  all_goals omega
end Go.Proofs.Qxb6630810a
