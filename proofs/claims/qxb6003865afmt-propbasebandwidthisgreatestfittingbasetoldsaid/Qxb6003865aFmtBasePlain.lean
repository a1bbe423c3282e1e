/- THE PLAIN LAW: the base bandwidth is the greatest that fits; a product in 32-bit halves: no Go in sight. -/
namespace Go.Proofs.Qxb6003865aFmt

/-- The high word, as the halves give it. -/
theorem hi_word (p0 p1 : Int) : (p0 / 4294967296 + p1) / 4294967296 = (p1 * 4294967296 + p0) / 18446744073709551616 := by omega

/-- k·b, cut at 32 bits of b. -/
theorem mul_split (k b : Int) : k * b = k * (b / 4294967296) * 4294967296 + k * (b % 4294967296) := by
  have h : b = b / 4294967296 * 4294967296 + b % 4294967296 := by omega
  conv => lhs; rw [h]
  rw [Int.mul_add, Int.mul_assoc]

/-- Does k·b + g stay within m, over the naturals? -/
def fits (k b g m : Int) : Bool := decide (k * b + g ≤ m)

/-- What the greatest base does: it fits, and one more does not. -/
theorem base_fits {k M G c : Int} (hk : 1 ≤ k) : fits k (min c ((M - G) / k)) G M = true := by
  have h1 : min c ((M - G) / k) ≤ (M - G) / k := Int.min_le_right _ _
  have h2 : k * (min c ((M - G) / k)) ≤ k * ((M - G) / k) := Int.mul_le_mul_of_nonneg_left h1 (by omega)
  have h3 : k * ((M - G) / k) ≤ M - G := Int.mul_ediv_self_le (by omega)
  unfold fits
  simp only [decide_eq_true_eq]
  omega
theorem base_next {k M G c : Int} (hk : 1 ≤ k) (hlt : (M - G) / k < c) : fits k (min c ((M - G) / k) + 1) G M = false := by
  have h1 : min c ((M - G) / k) = (M - G) / k := Int.min_eq_right (by omega)
  have h3 : M - G < k * ((M - G) / k + 1) := by
    have h4 := Int.mul_ediv_add_emod (M - G) k
    have h5 := Int.emod_lt_of_pos (M - G) (show 0 < k by omega)
    rw [Int.mul_add, Int.mul_one]
    omega
  rw [h1]
  unfold fits
  simp only [decide_eq_false_iff_not]
  omega

end Go.Proofs.Qxb6003865aFmt
