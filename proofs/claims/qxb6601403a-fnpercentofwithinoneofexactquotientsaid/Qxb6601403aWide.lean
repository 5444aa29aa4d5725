/-
  PLAIN MATHEMATICS OF THE 128-BIT MODEL: the limbs of a product and of a long division. No Go in sight but the kinds wraps and bits.
-/
import Derived.Laws.Bits64b
namespace Go.Proofs.Qxb6601403a.Wide
open Go

theorem and_mask (a : Nat) (h : a < 18446744073709551616) : bits .and .u64 (a : Int) 4294967295 = (a : Int) % 4294967296 := by
  have := bits_and_u64_nat a 4294967295 h (by omega)
  have e : a &&& 4294967295 = a % 4294967296 := Nat.and_two_pow_sub_one_eq_mod a 32
  rw [e] at this
  exact this

theorem or_join (x y : Nat) (hx : x < 4294967296) (hy : y < 4294967296) : bits .or .u64 ((x : Int) * 4294967296) (y : Int) = (x : Int) * 4294967296 + (y : Int) := by
  have h := bits_or_u64_nat (x * 4294967296) y (by omega) (by omega)
  have e : x * 4294967296 ||| y = x * 4294967296 + y := by
    have := Nat.two_pow_add_eq_or_of_lt (i := 32) (b := y) (by omega) x
    rw [Nat.mul_comm]
    exact this.symm
  rw [e] at h
  have e1 : ((x * 4294967296 : Nat) : Int) = (x : Int) * 4294967296 := by simp
  have e2 : ((x * 4294967296 + y : Nat) : Int) = (x : Int) * 4294967296 + (y : Int) := by simp
  rw [e1, e2] at h
  exact h

/-- the four parts of a product of 64 bits by a small number -/
theorem mul_parts (a m : Nat) (ha : a ≤ 9223372036854775808) (hm : m ≤ 10000) :
    ∃ p1 p2 : Nat, bits .and .u64 (a : Int) 4294967295 * (m : Int) = (p1 : Int) ∧ (a : Int) / 4294967296 * (m : Int) = (p2 : Int) ∧ p1 ≤ 42949672960000 ∧ p2 ≤ 21474836480000 ∧ a * m = p2 * 4294967296 + p1 := by
  refine ⟨a % 4294967296 * m, a / 4294967296 * m, ?_, ?_, ?_, ?_, ?_⟩
  · rw [and_mask a (by omega)]
    rw [Int.natCast_mul]; rfl
  · rw [Int.natCast_mul]; rfl
  · have := Nat.mul_le_mul (show a % 4294967296 ≤ 4294967296 by omega) hm; omega
  · have := Nat.mul_le_mul (show a / 4294967296 ≤ 2147483648 by omega) hm; omega
  · have e : a = a / 4294967296 * 4294967296 + a % 4294967296 := by omega
    have := congrArg (· * m) e
    simp only [Nat.add_mul] at this
    rw [this]
    have : a / 4294967296 * 4294967296 * m = a / 4294967296 * m * 4294967296 := by rw [Nat.mul_assoc, Nat.mul_comm 4294967296 m, Nat.mul_assoc]
    omega

theorem mul_carry (a m : Nat) (ha : a ≤ 9223372036854775808) (hm : m ≤ 10000)
    (c : IntKind.u64.wrap (IntKind.u64.wrap (bits .and .u64 (a : Int) 4294967295 * (m : Int)) + IntKind.u64.wrap (IntKind.u64.wrap ((a : Int) / 4294967296 * (m : Int)) * 4294967296)) < IntKind.u64.wrap (bits .and .u64 (a : Int) 4294967295 * (m : Int))) :
    ∃ h l : Nat, IntKind.u64.wrap (IntKind.u64.wrap ((a : Int) / 4294967296 * (m : Int)) / 4294967296 + 1) = (h : Int) ∧
      IntKind.u64.wrap (IntKind.u64.wrap (bits .and .u64 (a : Int) 4294967295 * (m : Int)) + IntKind.u64.wrap (IntKind.u64.wrap ((a : Int) / 4294967296 * (m : Int)) * 4294967296)) = (l : Int) ∧
      h * 18446744073709551616 + l = a * m ∧ l < 18446744073709551616 := by
  obtain ⟨p1, p2, e1, e2, b1, b2, e⟩ := mul_parts a m ha hm
  rw [e1, e2] at c
  rw [e1, e2, e]
  simp only [IntKind.wrap_u64] at c ⊢
  refine ⟨p2 / 4294967296 + 1, (p1 + p2 * 4294967296 % 18446744073709551616) % 18446744073709551616, ?_, ?_, ?_, ?_⟩ <;> omega

theorem mul_plain (a m : Nat) (ha : a ≤ 9223372036854775808) (hm : m ≤ 10000)
    (c : IntKind.u64.wrap (bits .and .u64 (a : Int) 4294967295 * (m : Int)) ≤ IntKind.u64.wrap (IntKind.u64.wrap (bits .and .u64 (a : Int) 4294967295 * (m : Int)) + IntKind.u64.wrap (IntKind.u64.wrap ((a : Int) / 4294967296 * (m : Int)) * 4294967296))) :
    ∃ h l : Nat, IntKind.u64.wrap (IntKind.u64.wrap ((a : Int) / 4294967296 * (m : Int)) / 4294967296) = (h : Int) ∧
      IntKind.u64.wrap (IntKind.u64.wrap (bits .and .u64 (a : Int) 4294967295 * (m : Int)) + IntKind.u64.wrap (IntKind.u64.wrap ((a : Int) / 4294967296 * (m : Int)) * 4294967296)) = (l : Int) ∧
      h * 18446744073709551616 + l = a * m ∧ l < 18446744073709551616 := by
  obtain ⟨p1, p2, e1, e2, b1, b2, e⟩ := mul_parts a m ha hm
  rw [e1, e2] at c
  rw [e1, e2, e]
  simp only [IntKind.wrap_u64] at c ⊢
  refine ⟨p2 / 4294967296, (p1 + p2 * 4294967296 % 18446744073709551616) % 18446744073709551616, ?_, ?_, ?_, ?_⟩ <;> omega

/-- the long division by 10000, limb by limb -/
theorem div_law (h l : Nat) (hh : h < 10000) (hl : l < 18446744073709551616) :
    (h : Int) / 10000 = 0 ∧
    bits .or .u64 (IntKind.u64.wrap (IntKind.u64.wrap ((bits .or .u64 ((h : Int) % 10000 * 4294967296) ((l : Int) / 4294967296)).tdiv 10000) * 4294967296))
      (IntKind.u64.wrap ((bits .or .u64 (IntKind.u64.wrap ((bits .or .u64 ((h : Int) % 10000 * 4294967296) ((l : Int) / 4294967296)).tmod 10000 * 4294967296)) (bits .and .u64 (l : Int) 4294967295)).tdiv 10000))
      = (((h * 18446744073709551616 + l) / 10000 : Nat) : Int) ∧
    (bits .or .u64 (IntKind.u64.wrap ((bits .or .u64 ((h : Int) % 10000 * 4294967296) ((l : Int) / 4294967296)).tmod 10000 * 4294967296)) (bits .and .u64 (l : Int) 4294967295)).tmod 10000
      = (((h * 18446744073709551616 + l) % 10000 : Nat) : Int) := by
  obtain ⟨C, hC⟩ : ∃ C : Nat, C = h * 4294967296 + l / 4294967296 := ⟨_, rfl⟩
  have c1 : bits .or .u64 ((h : Int) % 10000 * 4294967296) ((l : Int) / 4294967296) = (C : Int) := by
    have := or_join h (l / 4294967296) (by omega) (by omega)
    rw [show (h : Int) % 10000 = (h : Int) by omega]
    rw [show ((l / 4294967296 : Nat) : Int) = (l : Int) / 4294967296 by omega] at this
    rw [this]; omega
  rw [c1]
  have t1 : ((C : Nat) : Int).tdiv 10000 = ((C / 10000 : Nat) : Int) := by rw [Int.tdiv_eq_ediv_of_nonneg (by omega)]; omega
  have t2 : ((C : Nat) : Int).tmod 10000 = ((C % 10000 : Nat) : Int) := by rw [Int.tmod_eq_emod_of_nonneg (by omega)]; omega
  rw [t1, t2]
  have w1 : IntKind.u64.wrap (((C % 10000 : Nat) : Int) * 4294967296) = ((C % 10000 : Nat) : Int) * 4294967296 := by rw [IntKind.wrap_u64]; omega
  rw [w1]
  obtain ⟨D, hD⟩ : ∃ D : Nat, D = C % 10000 * 4294967296 + l % 4294967296 := ⟨_, rfl⟩
  have c2 : bits .or .u64 (((C % 10000 : Nat) : Int) * 4294967296) (bits .and .u64 (l : Int) 4294967295) = (D : Int) := by
    have := or_join (C % 10000) (l % 4294967296) (by omega) (by omega)
    rw [and_mask l hl, show (l : Int) % 4294967296 = ((l % 4294967296 : Nat) : Int) by omega, this]; omega
  rw [c2]
  have t3 : ((D : Nat) : Int).tdiv 10000 = ((D / 10000 : Nat) : Int) := by rw [Int.tdiv_eq_ediv_of_nonneg (by omega)]; omega
  have t4 : ((D : Nat) : Int).tmod 10000 = ((D % 10000 : Nat) : Int) := by rw [Int.tmod_eq_emod_of_nonneg (by omega)]; omega
  rw [t3, t4]
  have w2 : IntKind.u64.wrap ((C / 10000 : Nat) : Int) = ((C / 10000 : Nat) : Int) := by rw [IntKind.wrap_u64]; omega
  have w3 : IntKind.u64.wrap (((C / 10000 : Nat) : Int) * 4294967296) = ((C / 10000 : Nat) : Int) * 4294967296 := by rw [IntKind.wrap_u64]; omega
  have w4 : IntKind.u64.wrap ((D / 10000 : Nat) : Int) = ((D / 10000 : Nat) : Int) := by rw [IntKind.wrap_u64]; omega
  rw [w2, w3, w4, or_join (C / 10000) (D / 10000) (by omega) (by omega)]
  refine ⟨by omega, ?_, ?_⟩ <;> omega

end Go.Proofs.Qxb6601403a.Wide
