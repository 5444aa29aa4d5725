/-
  PLAIN MATHEMATICS OF A PER CENT OF AN AMOUNT: no Go in sight.
-/
namespace Go.Proofs.Qxb6601403a.Pct

theorem td (x : Int) : (0 ≤ x ∧ x.tdiv 10000 = x / 10000) ∨ (x < 0 ∧ x.tdiv 10000 = -((-x) / 10000)) := by
  by_cases h : 0 ≤ x
  · exact .inl ⟨h, Int.tdiv_eq_ediv_of_nonneg h⟩
  · refine .inr ⟨by omega, ?_⟩
    have h1 : (-x).tdiv 10000 = (-x) / 10000 := Int.tdiv_eq_ediv_of_nonneg (by omega)
    rw [Int.neg_tdiv] at h1
    omega

theorem tm (x : Int) : (0 ≤ x ∧ x.tmod 10000 = x % 10000) ∨ (x < 0 ∧ x.tmod 10000 = -((-x) % 10000)) := by
  by_cases h : 0 ≤ x
  · exact .inl ⟨h, Int.tmod_eq_emod_of_nonneg h⟩
  · refine .inr ⟨by omega, ?_⟩
    have h1 : (-x).tmod 10000 = (-x) % 10000 := Int.tmod_eq_emod_of_nonneg (by omega)
    rw [Int.neg_tmod] at h1
    omega

/-- the amount in whole blocks and the rest -/
theorem parts (x : Int) : x = x.tdiv 10000 * 10000 + x.tmod 10000 := by
  rcases td x with ⟨a, b⟩ | ⟨a, b⟩ <;> rcases tm x with ⟨c, d⟩ | ⟨c, d⟩ <;> omega

theorem shift_div (x : Int) (h : 0 ≤ x ∨ x ≤ -10000) : (x + 10000).tdiv 10000 = x.tdiv 10000 + 1 := by
  rcases td x with ⟨a, b⟩ | ⟨a, b⟩ <;> rcases td (x + 10000) with ⟨c, d⟩ | ⟨c, d⟩ <;> omega

theorem shift_mod (x : Int) (h : 0 ≤ x ∨ x ≤ -10000) : (x + 10000).tmod 10000 = x.tmod 10000 := by
  rcases tm x with ⟨a, b⟩ | ⟨a, b⟩ <;> rcases tm (x + 10000) with ⟨c, d⟩ | ⟨c, d⟩ <;> omega

/-- the two summands: whole blocks and the rest -/
theorem exact_law (A B X : Int) (hX : X = A * 10000 + B) (h : X % 10000 = 0) : A + B.tdiv 10000 = X.tdiv 10000 := by
  rcases td B with ⟨a, b⟩ | ⟨a, b⟩ <;> rcases td X with ⟨c, d⟩ | ⟨c, d⟩ <;> omega

theorem same_law (A B X : Int) (hX : X = A * 10000 + B) (h : (0 ≤ A ∧ 0 ≤ B) ∨ (A ≤ 0 ∧ B ≤ 0)) : A + B.tdiv 10000 = X.tdiv 10000 := by
  rcases td B with ⟨a, b⟩ | ⟨a, b⟩ <;> rcases td X with ⟨c, d⟩ | ⟨c, d⟩ <;> omega

theorem near_law (A B X : Int) (hX : X = A * 10000 + B) : A + B.tdiv 10000 = X.tdiv 10000 ∨ A + B.tdiv 10000 = X.tdiv 10000 + (if X < 0 then -1 else 1) := by
  rcases td B with ⟨a, b⟩ | ⟨a, b⟩ <;> rcases td X with ⟨c, d⟩ | ⟨c, d⟩ <;> split <;> omega

theorem mul_bound (a p m k : Int) (ha : -m ≤ a ∧ a ≤ m) (hp : -k ≤ p ∧ p ≤ k) (hm : 0 ≤ m) (hk : 0 ≤ k) : -(m * k) ≤ a * p ∧ a * p ≤ m * k := by
  have h1 : (a * p).natAbs ≤ (m * k).natAbs := by
    rw [Int.natAbs_mul, Int.natAbs_mul]
    exact Nat.mul_le_mul (by omega) (by omega)
  have h2 : 0 ≤ m * k := Int.mul_nonneg hm hk
  omega

/-- the whole blocks' product and the rest's product have one sign -/
theorem signs (x p : Int) : (0 ≤ x * p ∧ 0 ≤ x.tdiv 10000 * p ∧ 0 ≤ x.tmod 10000 * p) ∨ (x * p ≤ 0 ∧ x.tdiv 10000 * p ≤ 0 ∧ x.tmod 10000 * p ≤ 0) := by
  have d := td x
  have m := tm x
  by_cases hx : 0 ≤ x <;> by_cases hp : 0 ≤ p
  · exact .inl ⟨Int.mul_nonneg hx hp, Int.mul_nonneg (by omega) hp, Int.mul_nonneg (by omega) hp⟩
  · exact .inr ⟨Int.mul_nonpos_of_nonneg_of_nonpos hx (by omega), Int.mul_nonpos_of_nonneg_of_nonpos (by omega) (by omega), Int.mul_nonpos_of_nonneg_of_nonpos (by omega) (by omega)⟩
  · exact .inr ⟨Int.mul_nonpos_of_nonpos_of_nonneg (by omega) hp, Int.mul_nonpos_of_nonpos_of_nonneg (by omega) hp, Int.mul_nonpos_of_nonpos_of_nonneg (by omega) hp⟩
  · exact .inl ⟨Int.mul_nonneg_of_nonpos_of_nonpos (by omega) (by omega), Int.mul_nonneg_of_nonpos_of_nonpos (by omega) (by omega), Int.mul_nonneg_of_nonpos_of_nonpos (by omega) (by omega)⟩

end Go.Proofs.Qxb6601403a.Pct
