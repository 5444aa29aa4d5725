/-
  THE WALKS OF zzAbs (21), zzMul (20), zzDivW (23) and zzAdd (22): 128-bit magnitudes in two limbs.
-/
import Derived.Test.Qxb6601403aRows
import Derived.Test.Qxb6601403aPct
import Derived.Test.Qxb6601403aWide
import Derived.WalkKit
import Derived.ProofKit
import Derived.WalkLawsBesides
import Derived.WalkSpells
namespace Go.Proofs.Qxb6601403a
open Go.ChangeShapes Go.WideShapes Go.ChangeAt Go.RowKit
set_option linter.unusedSimpArgs false

theorem ret_u {k : IntKind} {a b : Int} (h : a = b) : Ending.returned (.int k a) = .returned (.int k b) := by rw [h]
theorem ret_uu {k : IntKind} {a b c d : Int} (h : a = c) (g : b = d) : Ending.returned (.tuple #[.int k a, .int k b]) = .returned (.tuple #[.int k c, .int k d]) := by rw [h, g]
theorem ret_uuu {k : IntKind} {a b c d e f : Int} (h : a = d) (g : b = e) (i : c = f) : Ending.returned (.tuple #[.int k a, .int k b, .int k c]) = .returned (.tuple #[.int k d, .int k e, .int k f]) := by rw [h, g, i]

theorem abs_any (x : Int) (h : -9223372036854775808 ≤ x ∧ x ≤ 9223372036854775807) (w : World) :
    Calls Try.prog 21 #[.int .i64 x] w fun e w' => e = .returned (.int .u64 x.natAbs) ∧ w = w' := by
  by_cases c : x < 0
  · go_enter Try.func21, Try.ntmps21
    go_wp2
    go_ret
    exact ⟨ret_u (by simp only [IntKind.wrap_u64]; omega), rfl⟩
  · go_enter Try.func21, Try.ntmps21
    go_wp2
    go_ret
    exact ⟨ret_u (by omega), rfl⟩

/-- a magnitude in two limbs -/
def Mag (h l M : Nat) : Prop := h * 18446744073709551616 + l = M ∧ l < 18446744073709551616

theorem mul_any (a m : Nat) (ha : a ≤ 9223372036854775808) (hm : m ≤ 10000) (w : World) :
    Calls Try.prog 20 #[.int .u64 a, .int .u64 m] w fun e w' => ∃ h l : Nat, e = .returned (.tuple #[.int .u64 h, .int .u64 l]) ∧ Mag h l (a * m) ∧ w = w' := by
  go_enter Try.func20, Try.ntmps20
  go_wp2
  · obtain ⟨h, l, e1, e2, r1, r2⟩ := Wide.mul_carry a m ha hm ‹_›
    go_ret2
    exact ⟨h, l, ret_uu e1 e2, ⟨r1, r2⟩, rfl⟩
  · obtain ⟨h, l, e1, e2, r1, r2⟩ := Wide.mul_plain a m ha hm ‹_›
    go_ret2
    exact ⟨h, l, ret_uu e1 e2, ⟨r1, r2⟩, rfl⟩

theorem div_any (h l : Nat) (hh : h < 10000) (hl : l < 18446744073709551616) (w : World) :
    Calls Try.prog 23 #[.int .u64 h, .int .u64 l] w fun e w' => e = .returned (.tuple #[.int .u64 0, .int .u64 (((h * 18446744073709551616 + l) / 10000 : Nat) : Int), .int .u64 (((h * 18446744073709551616 + l) % 10000 : Nat) : Int)]) ∧ w = w' := by
  have H := Wide.div_law h l hh hl
  have HH : Hid _ := H
  clear H
  go_enter Try.func23, Try.ntmps23
  go_wp2
  go_ret3
  exact ⟨ret_uuu HH.out.1 HH.out.2.1 HH.out.2.2, rfl⟩

/-- a sign and a magnitude in two limbs -/
structure Sig (X : Int) (n : Bool) (h l : Nat) : Prop where
  lt : l < 18446744073709551616
  neg : n = true → X < 0 ∧ X = -((h : Int) * 18446744073709551616 + l)
  pos : n = false → 0 ≤ X ∧ X = (h : Int) * 18446744073709551616 + l

/-- behind a name, so that the walk leaves it standing -/
def AddPost (X : Int) (w : World) (e : Ending) (w' : World) : Prop :=
  ∃ (n : Bool) (h' l' : Nat), e = .returned (.tuple #[.bool n, .int .u64 h', .int .u64 l']) ∧ Sig X n h' l' ∧ w = w'

theorem pack (X : Int) (n : Bool) (H L : Int) (w : World) (h1 : 0 ≤ H) (h2 : 0 ≤ L) (h3 : L < 18446744073709551616) (h4 : n = true → X < 0 ∧ X = -(H * 18446744073709551616 + L)) (h5 : n = false → 0 ≤ X ∧ X = H * 18446744073709551616 + L) :
    AddPost X w (Ending.returned (.tuple #[.bool n, .int .u64 H, .int .u64 L])) w := by
  obtain ⟨h', rfl⟩ : ∃ h' : Nat, H = h' := ⟨H.toNat, by omega⟩
  obtain ⟨l', rfl⟩ : ∃ l' : Nat, L = l' := ⟨L.toNat, by omega⟩
  exact ⟨n, h', l', rfl, ⟨by omega, h4, h5⟩, rfl⟩

def sg (n : Bool) (M : Int) : Int := if n then -M else M

theorem add_tt (h l b : Nat) (hh : h < 1000000) (hl : l < 18446744073709551616) (hb : b < 18446744073709551616) (h0 : ¬ (h = 0 ∧ l = 0)) (hb0 : ¬ b = 0) (w : World) :
    Calls Try.prog 22 #[.bool true, .int .u64 h, .int .u64 l, .bool true, .int .u64 b] w fun e w' => AddPost (sg true ((h : Int) * 18446744073709551616 + l) + sg true b) w e w' := by
  have HH : Hid (¬ (h = 0 ∧ l = 0)) := h0
  have HB : Hid (¬ b = 0) := hb0
  have k0 : ((b : Int) == 0) = false := by simp; omega
  clear hb0 h0
  by_cases hz : h = 0
  · subst hz
    have l0 : ((l : Int) == 0) = false := by have := HH.out; simp; omega
    by_cases c : (l : Int) + b ≤ 18446744073709551615
    · go_enter Try.func22, Try.ntmps22
      go_wp2
      go_ret3
      refine pack _ _ _ _ _ ?_ ?_ ?_ ?_ ?_
      all_goals first
        | omega
        | (intro hn; cases hn; done)
        | (simp only [IntKind.wrap_u64]; omega)
        | (intro _; have q1 := HH.out; have q2 := HB.out; simp only [sg, IntKind.wrap_u64, if_true, if_false, Bool.false_eq_true, and_true]; omega)
    · have c' : IntKind.u64.wrap ((l : Int) + b) < l := by rw [IntKind.wrap_u64]; omega
      go_enter Try.func22, Try.ntmps22
      go_wp2
      go_ret3
      refine pack _ _ _ _ _ ?_ ?_ ?_ ?_ ?_
      all_goals first
        | omega
        | (intro hn; cases hn; done)
        | (simp only [IntKind.wrap_u64]; omega)
        | (intro _; have q1 := HH.out; have q2 := HB.out; simp only [sg, IntKind.wrap_u64, if_true, if_false, Bool.false_eq_true, and_true]; omega)
  · have z0 : ((h : Int) == 0) = false := by simp; omega
    by_cases c : (l : Int) + b ≤ 18446744073709551615
    · go_enter Try.func22, Try.ntmps22
      go_wp2
      go_ret3
      refine pack _ _ _ _ _ ?_ ?_ ?_ ?_ ?_
      all_goals first
        | omega
        | (intro hn; cases hn; done)
        | (simp only [IntKind.wrap_u64]; omega)
        | (intro _; have q1 := HH.out; have q2 := HB.out; simp only [sg, IntKind.wrap_u64, if_true, if_false, Bool.false_eq_true, and_true]; omega)
    · have c' : IntKind.u64.wrap ((l : Int) + b) < l := by rw [IntKind.wrap_u64]; omega
      go_enter Try.func22, Try.ntmps22
      go_wp2
      go_ret3
      refine pack _ _ _ _ _ ?_ ?_ ?_ ?_ ?_
      all_goals first
        | omega
        | (intro hn; cases hn; done)
        | (simp only [IntKind.wrap_u64]; omega)
        | (intro _; have q1 := HH.out; have q2 := HB.out; simp only [sg, IntKind.wrap_u64, if_true, if_false, Bool.false_eq_true, and_true]; omega)

theorem add_ff (h l b : Nat) (hh : h < 1000000) (hl : l < 18446744073709551616) (hb : b < 18446744073709551616) (h0 : ¬ (h = 0 ∧ l = 0)) (hb0 : ¬ b = 0) (w : World) :
    Calls Try.prog 22 #[.bool false, .int .u64 h, .int .u64 l, .bool false, .int .u64 b] w fun e w' => AddPost (sg false ((h : Int) * 18446744073709551616 + l) + sg false b) w e w' := by
  have HH : Hid (¬ (h = 0 ∧ l = 0)) := h0
  have HB : Hid (¬ b = 0) := hb0
  have k0 : ((b : Int) == 0) = false := by simp; omega
  clear hb0 h0
  by_cases hz : h = 0
  · subst hz
    have l0 : ((l : Int) == 0) = false := by have := HH.out; simp; omega
    by_cases c : (l : Int) + b ≤ 18446744073709551615
    · go_enter Try.func22, Try.ntmps22
      go_wp2
      go_ret3
      refine pack _ _ _ _ _ ?_ ?_ ?_ ?_ ?_
      all_goals first
        | omega
        | (intro hn; cases hn; done)
        | (simp only [IntKind.wrap_u64]; omega)
        | (intro _; have q1 := HH.out; have q2 := HB.out; simp only [sg, IntKind.wrap_u64, if_true, if_false, Bool.false_eq_true, and_true]; omega)
    · have c' : IntKind.u64.wrap ((l : Int) + b) < l := by rw [IntKind.wrap_u64]; omega
      go_enter Try.func22, Try.ntmps22
      go_wp2
      go_ret3
      refine pack _ _ _ _ _ ?_ ?_ ?_ ?_ ?_
      all_goals first
        | omega
        | (intro hn; cases hn; done)
        | (simp only [IntKind.wrap_u64]; omega)
        | (intro _; have q1 := HH.out; have q2 := HB.out; simp only [sg, IntKind.wrap_u64, if_true, if_false, Bool.false_eq_true, and_true]; omega)
  · have z0 : ((h : Int) == 0) = false := by simp; omega
    by_cases c : (l : Int) + b ≤ 18446744073709551615
    · go_enter Try.func22, Try.ntmps22
      go_wp2
      go_ret3
      refine pack _ _ _ _ _ ?_ ?_ ?_ ?_ ?_
      all_goals first
        | omega
        | (intro hn; cases hn; done)
        | (simp only [IntKind.wrap_u64]; omega)
        | (intro _; have q1 := HH.out; have q2 := HB.out; simp only [sg, IntKind.wrap_u64, if_true, if_false, Bool.false_eq_true, and_true]; omega)
    · have c' : IntKind.u64.wrap ((l : Int) + b) < l := by rw [IntKind.wrap_u64]; omega
      go_enter Try.func22, Try.ntmps22
      go_wp2
      go_ret3
      refine pack _ _ _ _ _ ?_ ?_ ?_ ?_ ?_
      all_goals first
        | omega
        | (intro hn; cases hn; done)
        | (simp only [IntKind.wrap_u64]; omega)
        | (intro _; have q1 := HH.out; have q2 := HB.out; simp only [sg, IntKind.wrap_u64, if_true, if_false, Bool.false_eq_true, and_true]; omega)

theorem add_tf (h l b : Nat) (hh : h < 1000000) (hl : l < 18446744073709551616) (hb : b < 18446744073709551616) (h0 : ¬ (h = 0 ∧ l = 0)) (hb0 : ¬ b = 0) (w : World) :
    Calls Try.prog 22 #[.bool true, .int .u64 h, .int .u64 l, .bool false, .int .u64 b] w fun e w' => AddPost (sg true ((h : Int) * 18446744073709551616 + l) + sg false b) w e w' := by
  have HH : Hid (¬ (h = 0 ∧ l = 0)) := h0
  have HB : Hid (¬ b = 0) := hb0
  have k0 : ((b : Int) == 0) = false := by simp; omega
  clear hb0 h0
  by_cases hz : h = 0
  · subst hz
    have l0 : ((l : Int) == 0) = false := by have := HH.out; simp; omega
    by_cases c : l = b
    · subst c
      go_enter Try.func22, Try.ntmps22
      go_wp2
      go_ret3
      refine pack _ _ _ _ _ ?_ ?_ ?_ ?_ ?_
      all_goals first
        | omega
        | (intro hn; cases hn; done)
        | (simp only [IntKind.wrap_u64]; omega)
        | (intro _; have q1 := HH.out; have q2 := HB.out; simp only [sg, IntKind.wrap_u64, if_true, if_false, Bool.false_eq_true, and_true]; omega)
    · by_cases d : (b : Int) ≤ l
      · have e0 : ((l : Int) - b == 0) = false := by simp; omega
        go_enter Try.func22, Try.ntmps22
        go_wp2
        go_ret3
        refine pack _ _ _ _ _ ?_ ?_ ?_ ?_ ?_
        all_goals first
          | omega
          | (intro hn; cases hn; done)
          | (simp only [IntKind.wrap_u64]; omega)
          | (intro _; have q1 := HH.out; have q2 := HB.out; simp only [sg, IntKind.wrap_u64, if_true, if_false, Bool.false_eq_true, and_true]; omega)
      · go_enter Try.func22, Try.ntmps22
        go_wp2
        go_ret3
        refine pack _ _ _ _ _ ?_ ?_ ?_ ?_ ?_
        all_goals first
          | omega
          | (intro hn; cases hn; done)
          | (simp only [IntKind.wrap_u64]; omega)
          | (intro _; have q1 := HH.out; have q2 := HB.out; simp only [sg, IntKind.wrap_u64, if_true, if_false, Bool.false_eq_true, and_true]; omega)
  · have z0 : ((h : Int) == 0) = false := by simp; omega
    by_cases c : (b : Int) ≤ l
    · go_enter Try.func22, Try.ntmps22
      go_wp2
      go_ret3
      refine pack _ _ _ _ _ ?_ ?_ ?_ ?_ ?_
      all_goals first
        | omega
        | (intro hn; cases hn; done)
        | (simp only [IntKind.wrap_u64]; omega)
        | (intro _; have q1 := HH.out; have q2 := HB.out; simp only [sg, IntKind.wrap_u64, if_true, if_false, Bool.false_eq_true, and_true]; omega)
    · have c' : (IntKind.u64.wrap ((l : Int) - b) == 0) = false := by rw [IntKind.wrap_u64]; simp; omega
      by_cases d : h = 1
      · subst d
        go_enter Try.func22, Try.ntmps22
        go_wp2
        go_ret3
        refine pack _ _ _ _ _ ?_ ?_ ?_ ?_ ?_
        all_goals first
          | omega
          | (intro hn; cases hn; done)
          | (simp only [IntKind.wrap_u64]; omega)
          | (intro _; have q1 := HH.out; have q2 := HB.out; simp only [sg, IntKind.wrap_u64, if_true, if_false, Bool.false_eq_true, and_true]; omega)
      · have d' : ((h : Int) - 1 == 0) = false := by simp; omega
        go_enter Try.func22, Try.ntmps22
        go_wp2
        go_ret3
        refine pack _ _ _ _ _ ?_ ?_ ?_ ?_ ?_
        all_goals first
          | omega
          | (intro hn; cases hn; done)
          | (simp only [IntKind.wrap_u64]; omega)
          | (intro _; have q1 := HH.out; have q2 := HB.out; simp only [sg, IntKind.wrap_u64, if_true, if_false, Bool.false_eq_true, and_true]; omega)

theorem add_ft (h l b : Nat) (hh : h < 1000000) (hl : l < 18446744073709551616) (hb : b < 18446744073709551616) (h0 : ¬ (h = 0 ∧ l = 0)) (hb0 : ¬ b = 0) (w : World) :
    Calls Try.prog 22 #[.bool false, .int .u64 h, .int .u64 l, .bool true, .int .u64 b] w fun e w' => AddPost (sg false ((h : Int) * 18446744073709551616 + l) + sg true b) w e w' := by
  have HH : Hid (¬ (h = 0 ∧ l = 0)) := h0
  have HB : Hid (¬ b = 0) := hb0
  have k0 : ((b : Int) == 0) = false := by simp; omega
  clear hb0 h0
  by_cases hz : h = 0
  · subst hz
    have l0 : ((l : Int) == 0) = false := by have := HH.out; simp; omega
    by_cases c : l = b
    · subst c
      go_enter Try.func22, Try.ntmps22
      go_wp2
      go_ret3
      refine pack _ _ _ _ _ ?_ ?_ ?_ ?_ ?_
      all_goals first
        | omega
        | (intro hn; cases hn; done)
        | (simp only [IntKind.wrap_u64]; omega)
        | (intro _; have q1 := HH.out; have q2 := HB.out; simp only [sg, IntKind.wrap_u64, if_true, if_false, Bool.false_eq_true, and_true]; omega)
    · by_cases d : (b : Int) ≤ l
      · have e0 : ((l : Int) - b == 0) = false := by simp; omega
        go_enter Try.func22, Try.ntmps22
        go_wp2
        go_ret3
        refine pack _ _ _ _ _ ?_ ?_ ?_ ?_ ?_
        all_goals first
          | omega
          | (intro hn; cases hn; done)
          | (simp only [IntKind.wrap_u64]; omega)
          | (intro _; have q1 := HH.out; have q2 := HB.out; simp only [sg, IntKind.wrap_u64, if_true, if_false, Bool.false_eq_true, and_true]; omega)
      · go_enter Try.func22, Try.ntmps22
        go_wp2
        go_ret3
        refine pack _ _ _ _ _ ?_ ?_ ?_ ?_ ?_
        all_goals first
          | omega
          | (intro hn; cases hn; done)
          | (simp only [IntKind.wrap_u64]; omega)
          | (intro _; have q1 := HH.out; have q2 := HB.out; simp only [sg, IntKind.wrap_u64, if_true, if_false, Bool.false_eq_true, and_true]; omega)
  · have z0 : ((h : Int) == 0) = false := by simp; omega
    by_cases c : (b : Int) ≤ l
    · go_enter Try.func22, Try.ntmps22
      go_wp2
      go_ret3
      refine pack _ _ _ _ _ ?_ ?_ ?_ ?_ ?_
      all_goals first
        | omega
        | (intro hn; cases hn; done)
        | (simp only [IntKind.wrap_u64]; omega)
        | (intro _; have q1 := HH.out; have q2 := HB.out; simp only [sg, IntKind.wrap_u64, if_true, if_false, Bool.false_eq_true, and_true]; omega)
    · have c' : (IntKind.u64.wrap ((l : Int) - b) == 0) = false := by rw [IntKind.wrap_u64]; simp; omega
      by_cases d : h = 1
      · subst d
        go_enter Try.func22, Try.ntmps22
        go_wp2
        go_ret3
        refine pack _ _ _ _ _ ?_ ?_ ?_ ?_ ?_
        all_goals first
          | omega
          | (intro hn; cases hn; done)
          | (simp only [IntKind.wrap_u64]; omega)
          | (intro _; have q1 := HH.out; have q2 := HB.out; simp only [sg, IntKind.wrap_u64, if_true, if_false, Bool.false_eq_true, and_true]; omega)
      · have d' : ((h : Int) - 1 == 0) = false := by simp; omega
        go_enter Try.func22, Try.ntmps22
        go_wp2
        go_ret3
        refine pack _ _ _ _ _ ?_ ?_ ?_ ?_ ?_
        all_goals first
          | omega
          | (intro hn; cases hn; done)
          | (simp only [IntKind.wrap_u64]; omega)
          | (intro _; have q1 := HH.out; have q2 := HB.out; simp only [sg, IntKind.wrap_u64, if_true, if_false, Bool.false_eq_true, and_true]; omega)

theorem add_none (an bn : Bool) (b : Nat) (hb : b < 18446744073709551616) (w : World) :
    Calls Try.prog 22 #[.bool an, .int .u64 0, .int .u64 0, .bool bn, .int .u64 b] w fun e w' => AddPost (sg bn b) w e w' := by
  cases bn
  · go_enter Try.func22, Try.ntmps22
    go_wp2
    go_ret3
    refine pack _ _ _ _ _ ?_ ?_ ?_ ?_ ?_
    all_goals first
      | omega
      | (intro hn; cases hn; done)
      | (intro _; simp only [sg, if_true, if_false, Bool.false_eq_true, and_true]; omega)
  · by_cases c : b = 0
    · subst c
      go_enter Try.func22, Try.ntmps22
      go_wp2
      go_ret3
      refine pack _ _ _ _ _ ?_ ?_ ?_ ?_ ?_
      all_goals first
        | omega
        | (intro hn; cases hn; done)
        | (intro _; simp only [sg, if_true, if_false, Bool.false_eq_true, and_true]; omega)
    · have k0 : ((b : Int) == 0) = false := by simp; omega
      have k1 : ((b : Int) != 0) = true := by simp; omega
      have HB : Hid (¬ b = 0) := c
      clear c
      go_enter Try.func22, Try.ntmps22
      go_wp2
      go_ret3
      refine pack _ _ _ _ _ ?_ ?_ ?_ ?_ ?_
      all_goals first
        | omega
        | (intro hn; cases hn; done)
        | (intro _; have q2 := HB.out; simp only [sg, if_true, if_false, Bool.false_eq_true, and_true]; omega)

theorem add_null (an bn : Bool) (h l : Nat) (hh : h < 1000000) (hl : l < 18446744073709551616) (h0 : ¬ (h = 0 ∧ l = 0)) (w : World) :
    Calls Try.prog 22 #[.bool an, .int .u64 h, .int .u64 l, .bool bn, .int .u64 0] w fun e w' => AddPost (sg an ((h : Int) * 18446744073709551616 + l)) w e w' := by
  have HH : Hid (1 ≤ h + l) := (by omega : 1 ≤ h + l)
  clear h0
  by_cases hz : h = 0
  · subst hz
    have l0 : ((l : Int) == 0) = false := by have h1 : 1 ≤ 0 + l := HH.out; simp; omega
    cases an
    all_goals
      go_enter Try.func22, Try.ntmps22
      go_wp2
      go_ret3
      refine pack _ _ _ _ _ ?_ ?_ ?_ ?_ ?_
      all_goals first
        | omega
        | (intro hn; cases hn; done)
        | (intro _; have q1 := HH.out; simp only [sg, if_true, if_false, Bool.false_eq_true, and_true]; omega)
  · have z0 : ((h : Int) == 0) = false := by simp; omega
    cases an
    all_goals
      go_enter Try.func22, Try.ntmps22
      go_wp2
      go_ret3
      refine pack _ _ _ _ _ ?_ ?_ ?_ ?_ ?_
      all_goals first
        | omega
        | (intro hn; cases hn; done)
        | (intro _; have q1 := HH.out; simp only [sg, if_true, if_false, Bool.false_eq_true, and_true]; omega)

/-- zzAdd: a signed 64-bit magnitude added to a signed 128-bit magnitude -/
theorem add_any (an bn : Bool) (h l b : Nat) (hh : h < 1000000) (hl : l < 18446744073709551616) (hb : b < 18446744073709551616) (w : World) :
    Calls Try.prog 22 #[.bool an, .int .u64 h, .int .u64 l, .bool bn, .int .u64 b] w fun e w' => AddPost (sg an ((h : Int) * 18446744073709551616 + l) + sg bn b) w e w' := by
  by_cases h0 : h = 0 ∧ l = 0
  · obtain ⟨rfl, rfl⟩ := h0
    have e : sg an (((0 : Nat) : Int) * 18446744073709551616 + ((0 : Nat) : Int)) + sg bn b = sg bn b := by cases an <;> simp [sg]
    rw [e]
    exact add_none an bn b hb w
  · by_cases hb0 : b = 0
    · subst hb0
      have e : sg an ((h : Int) * 18446744073709551616 + l) + sg bn ((0 : Nat) : Int) = sg an ((h : Int) * 18446744073709551616 + l) := by cases bn <;> simp [sg]
      rw [e]
      exact add_null an bn h l hh hl h0 w
    · cases an <;> cases bn
      · exact add_ff h l b hh hl hb h0 hb0 w
      · exact add_ft h l b hh hl hb h0 hb0 w
      · exact add_tf h l b hh hl hb h0 hb0 w
      · exact add_tt h l b hh hl hb h0 hb0 w

end Go.Proofs.Qxb6601403a
