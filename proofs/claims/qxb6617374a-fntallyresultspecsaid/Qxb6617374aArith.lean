namespace Go.Proofs.Qxb6617374a
theorem div_bounds (a b : Int) (hb : 1 ≤ b) : (a / b) * b ≤ a ∧ a < (a / b) * b + b := by
  have h1 := Int.ediv_mul_le a (show b ≠ 0 by omega)
  have h2 := Int.lt_ediv_add_one_mul_self a (show 0 < b by omega)
  rw [Int.add_mul, Int.one_mul] at h2
  exact ⟨h1, h2⟩
/-- the bytes per round, rounded -/
theorem q_facts (bytes rounds q t : Int) (h0 : 0 ≤ bytes) (h1 : 1 ≤ rounds) (hq : q = (2 * bytes + rounds) / (2 * rounds)) (ht : t = 2 * q * rounds) :
    0 ≤ q ∧ q ≤ bytes / rounds + 1 ∧ t ≤ 2 * bytes + rounds ∧ 2 * bytes < t + rounds ∧ 0 ≤ t ∧ q ≤ 2 * bytes + rounds := by
  have hb := div_bounds (2 * bytes + rounds) (2 * rounds) (by omega)
  rw [← hq] at hb
  have e : q * (2 * rounds) = t := by
    rw [ht, Int.mul_comm 2 q, Int.mul_assoc]
  rw [e] at hb
  have hq0 : 0 ≤ q := by rw [hq]; exact Int.ediv_nonneg (by omega) (by omega)
  have hB := div_bounds bytes rounds h1
  have ht0 : 0 ≤ t := by rw [ht]; exact Int.mul_nonneg (by omega) (by omega)
  have hqt : q ≤ t := by
    have := Int.mul_le_mul_of_nonneg_left (show (1 : Int) ≤ 2 * rounds by omega) hq0
    rw [e, Int.mul_one] at this
    exact this
  refine ⟨hq0, ?_, by omega, by omega, ht0, by omega⟩
  refine Int.not_lt.1 fun hlt => ?_
  have h3 : bytes / rounds + 2 ≤ q := by omega
  have h4 := Int.mul_le_mul_of_nonneg_right h3 (show (0 : Int) ≤ rounds by omega)
  rw [Int.add_mul] at h4
  have e2 : t = 2 * (q * rounds) := by rw [ht, Int.mul_assoc]
  omega
/-- the delivered share -/
theorem dl_facts (pairs all dl : Int) (h0 : 0 ≤ pairs) (h1 : 1 ≤ all) (h2 : pairs ≤ all) (hd : dl = pairs * 10000 / all) :
    0 ≤ dl ∧ dl ≤ 10000 ∧ dl * all ≤ 10000 * pairs ∧ 10000 * pairs < dl * all + all ∧ 0 ≤ dl * all := by
  have hb := div_bounds (pairs * 10000) all h1
  rw [← hd] at hb
  have hd0 : 0 ≤ dl := by rw [hd]; exact Int.ediv_nonneg (by omega) (by omega)
  have hm : 0 ≤ dl * all := Int.mul_nonneg hd0 (by omega)
  refine ⟨hd0, ?_, by omega, by omega, hm⟩
  refine Int.not_lt.1 fun hlt => ?_
  have h3 := Int.mul_le_mul_of_nonneg_right (show (10001 : Int) ≤ dl by omega) (show (0 : Int) ≤ all by omega)
  omega
end Go.Proofs.Qxb6617374a
