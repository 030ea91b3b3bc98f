namespace Go.Proofs.Qxb6613510a
/-- The integer nearest s/n, halves going up. -/
def mn (s n : Int) : Int := (2 * s + n) / (2 * n)

theorem mn_lo (s n : Int) (h : 1 ≤ n) : 2 * n * mn s n - n ≤ 2 * s := by
  have := Int.mul_ediv_self_le (x := 2 * s + n) (k := 2 * n) (by omega)
  unfold mn; omega
theorem mn_hi (s n : Int) (h : 1 ≤ n) : 2 * s < 2 * n * mn s n + n := by
  have := Int.lt_mul_ediv_self_add (x := 2 * s + n) (k := 2 * n) (by omega)
  unfold mn; omega
theorem mn_nonneg (s n : Int) (h : 1 ≤ n) (h0 : 0 ≤ s) : 0 ≤ mn s n :=
  Int.ediv_nonneg (by omega) (by omega)
theorem mn_le (s n : Int) (h : 1 ≤ n) (h1 : s ≤ n * 2147483647) : mn s n ≤ 2147483647 := by
  have e : mn s n < 2147483648 := Int.ediv_lt_of_lt_mul (by omega) (by omega)
  omega
theorem mn_scale (s n k : Int) (hk : 1 ≤ k) : mn (k * s) (k * n) = mn s n := by
  unfold mn
  have e1 : 2 * (k * s) + k * n = k * (2 * s + n) := by rw [Int.mul_add, Int.mul_left_comm]
  have e2 : 2 * (k * n) = k * (2 * n) := by rw [Int.mul_left_comm]
  rw [e1, e2, Int.mul_ediv_mul_of_pos _ _ (by omega)]
theorem mn_shift (s n c : Int) (h : 1 ≤ n) : mn (s + n * c) n = mn s n + c := by
  unfold mn
  have e1 : 2 * (s + n * c) + n = (2 * s + n) + (2 * n) * c := by rw [Int.mul_add, Int.mul_assoc]; omega
  rw [e1, Int.add_mul_ediv_left _ _ (by omega)]
/-- 2nx is a number of 63 bits. -/
theorem nx_bd (n x : Int) (h : 1 ≤ n) (h2 : n ≤ 1073741824) (h0 : 0 ≤ x) (h1 : x ≤ 2147483647) : 0 ≤ 2 * n * x ∧ 2 * n * x ≤ 4611686016279904256 := by
  constructor
  · exact Int.mul_nonneg (by omega) h0
  · calc 2 * n * x ≤ 2 * n * 2147483647 := Int.mul_le_mul_of_nonneg_left h1 (by omega)
      _ ≤ 4611686016279904256 := by omega
end Go.Proofs.Qxb6613510a
