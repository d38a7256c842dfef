/-
  PLAIN LAWS ON DIVISION ROUNDED DOWN. No Go in this text.
-/
namespace Go.Proofs.Qxb6617372a

theorem tdiv_down {a b : Int} (hb : 1 ≤ b) (h : a.tmod b < 0) : a.tdiv b - 1 = a / b := by
  have h1 := Int.tmod_add_tdiv_mul a b
  have h2 : -b < a.tmod b := by
    have := Int.lt_tmod_of_pos a (show 0 < b by omega)
    omega
  have h3 : (a.tdiv b - 1) * b = a.tdiv b * b - b := by rw [Int.sub_mul, Int.one_mul]
  have := (Int.ediv_emod_unique (a := a) (b := b) (r := a.tmod b + b) (q := a.tdiv b - 1) (show 0 < b by omega)).2 ⟨by rw [Int.mul_comm b]; omega, by omega, by omega⟩
  exact this.1.symm
theorem tdiv_flat {a b : Int} (hb : 1 ≤ b) (h : 0 ≤ a.tmod b) : a.tdiv b = a / b := by
  have h1 := Int.tmod_add_tdiv_mul a b
  have h2 : a.tmod b < b := Int.tmod_lt_of_pos a (show 0 < b by omega)
  have := (Int.ediv_emod_unique (a := a) (b := b) (r := a.tmod b) (q := a.tdiv b) (show 0 < b by omega)).2 ⟨by rw [Int.mul_comm b]; omega, h, h2⟩
  exact this.1.symm
theorem tdiv_bounds {a b L U : Int} (hb : 1 ≤ b) (h1 : L ≤ a) (h2 : a ≤ U) (hL : L ≤ 0) (hU : 0 ≤ U) : L ≤ a.tdiv b ∧ a.tdiv b ≤ U := by
  by_cases ha : a < 0
  · have h3 : (-a).tdiv b = -(a.tdiv b) := Int.neg_tdiv ..
    have h4 : 0 ≤ (-a).tdiv b := Int.tdiv_nonneg (by omega) (by omega)
    have h5 : (-a).tdiv b ≤ -a := Int.tdiv_le_self b (by omega)
    omega
  · have h4 : 0 ≤ a.tdiv b := Int.tdiv_nonneg (by omega) (by omega)
    have h5 : a.tdiv b ≤ a := Int.tdiv_le_self b (by omega)
    omega
/-- What 'rounded down' says. -/
theorem ediv_says {a b : Int} (hb : 1 ≤ b) : a / b * b ≤ a ∧ a < a / b * b + b := by
  have h1 := Int.mul_ediv_add_emod a b
  have h2 := Int.emod_nonneg a (show b ≠ 0 by omega)
  have h3 := Int.emod_lt_of_pos a (show 0 < b by omega)
  rw [Int.mul_comm b] at h1
  omega
theorem ediv_bounds {a b L U : Int} (hb : 1 ≤ b) (h1 : L ≤ a) (h2 : a ≤ U) (hL : L ≤ 0) (hU : 0 ≤ U) : L ≤ a / b ∧ a / b ≤ U := by
  constructor
  · refine (Int.le_ediv_iff_mul_le (show 0 < b by omega)).2 ?_
    have : L * b ≤ L * 1 := Int.mul_le_mul_of_nonpos_left hL hb
    omega
  · have h4 : a / b < U + 1 := (Int.ediv_lt_iff_lt_mul (show 0 < b by omega)).2 (by
      have : (U + 1) * 1 ≤ (U + 1) * b := Int.mul_le_mul_of_nonneg_left hb (by omega)
      omega)
    omega
theorem ediv_shift {a b k : Int} (hb : 1 ≤ b) : (a + k * b) / b = a / b + k := Int.add_mul_ediv_right a k (by omega)
/-- A product within the quotient's reach. -/
theorem mul_within {b k Z : Int} (hb : 1 ≤ b) (h1 : k ≤ Z / b) (h2 : -(Z / b) ≤ k) : -Z ≤ k * b ∧ k * b ≤ Z := by
  have h3 := (ediv_says (a := Z) hb).1
  have h4 : k * b ≤ Z / b * b := Int.mul_le_mul_of_nonneg_right h1 (by omega)
  have h5 : -(Z / b) * b ≤ k * b := Int.mul_le_mul_of_nonneg_right h2 (by omega)
  rw [Int.neg_mul] at h5
  omega
theorem ediv_nest {a b c : Int} (hb : 1 ≤ b) : a / b / c = a / (b * c) := Int.ediv_ediv_of_nonneg (by omega)

end Go.Proofs.Qxb6617372a
