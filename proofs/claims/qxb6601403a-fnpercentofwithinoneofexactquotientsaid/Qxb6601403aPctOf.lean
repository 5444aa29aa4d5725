/-
  THE WALK OF 'Percent.of' (function 24) AND OF ITS EXPORTED NAME (function 17): each computes the plain 'pof'.
-/
import Derived.Test.Qxb6601403aRows
import Derived.Test.Qxb6601403aPct
import Derived.WalkKit
import Derived.ProofKit
import Derived.WalkLawsBesides
import Derived.WalkSpells
namespace Go.Proofs.Qxb6601403a
open Go.ChangeShapes Go.WideShapes Go.ChangeAt Go.RowKit

/-- 'amount/whole*n + (amount%whole*n+bias)/whole', every step in 64 bits -/
def pof (p a b : Int) : Int :=
  wrap64 (wrap64 (wrap64 (a.tdiv 10000) * p) + wrap64 ((wrap64 (wrap64 (a.tmod 10000 * p) + b)).tdiv 10000))

theorem of_any (p a b : Int) (w : World) :
    Calls Try.prog 24 #[.int .i64 p, .int .i64 a, .int .i64 b] w fun e w' => e = .returned (.int .i64 (pof p a b)) ∧ w' = w.drew := by
  go_enter Try.func24, Try.ntmps24
  go_wp2
  go_region
  all_goals go_wp2
  go_ret
  exact ⟨rfl, rfl⟩

theorem pof_any (p a b : Int) (w : World) :
    Calls Try.prog 17 #[.int .i64 p, .int .i64 a, .int .i64 b] w fun e w' => e = .returned (.int .i64 (pof p a b)) ∧ w' = w.drew := by
  go_enter Try.func17, Try.ntmps17
  go_wp2_with (go_at_call 24; refine (of_any _ _ _ _).mono ?_; rintro e w' ⟨rfl, rfl⟩)
  go_ret
  exact ⟨rfl, rfl⟩

/-- adding a whole block to an amount that stays on one side of zero adds p -/
theorem pof_shift (p a b : Int) (h : 0 ≤ a ∨ a ≤ -10000) : pof p (a + 10000) b = wrap64 (pof p a b + p) := by
  have hd := Pct.shift_div a h
  have hm := Pct.shift_mod a h
  unfold pof
  rw [hd, hm]
  generalize a.tdiv 10000 = q
  generalize wrap64 ((wrap64 (wrap64 (a.tmod 10000 * p) + b)).tdiv 10000) = s
  have e1 : wrap64 (wrap64 (q + 1) * p) = wrap64 (wrap64 (wrap64 q * p) + p) := by
    have a1 : ∃ k : Int, wrap64 (q + 1) = wrap64 q + 1 + k * 18446744073709551616 := by
      refine ⟨(wrap64 (q + 1) - wrap64 q - 1) / 18446744073709551616, ?_⟩
      unfold wrap64; omega
    obtain ⟨k, hk⟩ := a1
    rw [hk, Int.add_mul, Int.add_mul, Int.one_mul]
    have e : k * 18446744073709551616 * p = (k * p) * 18446744073709551616 := by
      rw [Int.mul_assoc, Int.mul_comm 18446744073709551616 p, Int.mul_assoc]
    rw [e]
    generalize wrap64 q * p = x
    generalize k * p = y
    unfold wrap64; omega
  rw [e1]
  generalize wrap64 q * p = x
  unfold wrap64; omega

end Go.Proofs.Qxb6601403a
