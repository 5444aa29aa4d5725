/-
  THE WALK OF zzPercentModel (16), one theorem for each case of signs.
-/
import Derived.Test.Qxb6601403aLimbs
namespace Go.Proofs.Qxb6601403a
open Go.ChangeShapes Go.WideShapes Go.ChangeAt Go.RowKit

theorem results_tmp5 {fn : Func} {t u v x y : Tmp} (h : fn.results = #[.tmp t, .tmp u, .tmp v, .tmp x, .tmp y]) (tmps : Array Value) (P : Program) (w : World) :
    (results fn tmps).run P w = .ok (.tuple #[tmps.getD t undef, tmps.getD u undef, tmps.getD v undef, tmps.getD x undef, tmps.getD y undef]) w := by
  simp [results, h]

/-- what the model answers where the exact answer fits -/
structure Fit (p a b t : Int) (ex : Bool) (st : Int) (op : Bool) : Prop where
  quo : t = (a * p + b).tdiv 10000
  lo : -9223372036854775808 ≤ t
  hi : t ≤ 9223372036854775807
  exact : ex = true → (a * p + b) % 10000 = 0
  step : st = if a * p + b < 0 then -1 else 1
  same : op = false → (0 ≤ a * p ∧ 0 ≤ b) ∨ (a * p ≤ 0 ∧ b ≤ 0)
  room : ex = false → op = true → -9223372036854775808 ≤ t + st ∧ t + st ≤ 9223372036854775807

/-- behind a name, so that the walk leaves it standing -/
def ModPost (p a b : Int) (w : World) (e : Ending) (w' : World) : Prop :=
  (e = .returned (.tuple #[.bool false, .int .i64 0, .bool false, .int .i64 0, .bool false]) ∨
    ∃ t ex st op, e = .returned (.tuple #[.bool true, .int .i64 t, .bool ex, .int .i64 st, .bool op]) ∧ Fit p a b t ex st op) ∧ w = w'

theorem mod_no (p a b : Int) (w : World) : ModPost p a b w (.returned (.tuple #[.bool false, .int .i64 0, .bool false, .int .i64 0, .bool false])) w := ⟨.inl rfl, rfl⟩
theorem mod_yes (p a b t : Int) (ex : Bool) (st : Int) (op : Bool) (w : World) (h : Fit p a b t ex st op) : ModPost p a b w (.returned (.tuple #[.bool true, .int .i64 t, .bool ex, .int .i64 st, .bool op])) w :=
  ⟨.inr ⟨t, ex, st, op, rfl, h⟩, rfl⟩

/-- the quotient and the rest of a magnitude -/
theorem div_mag (h l : Nat) (hh : h < 10000) (hl : l < 18446744073709551616) (w : World) :
    Calls Try.prog 23 #[.int .u64 h, .int .u64 l] w fun e w' => ∃ q r : Nat, e = .returned (.tuple #[.int .u64 0, .int .u64 q, .int .u64 r]) ∧ Hid (h * 18446744073709551616 + l = q * 10000 + r ∧ r < 10000) ∧ w = w' :=
  (div_any h l hh hl w).mono fun e w' ⟨h1, h2⟩ => ⟨_, _, h1, (by omega : h * 18446744073709551616 + l = (h * 18446744073709551616 + l) / 10000 * 10000 + (h * 18446744073709551616 + l) % 10000 ∧ (h * 18446744073709551616 + l) % 10000 < 10000), h2⟩

theorem prod_abs (a p : Int) (h l : Nat) (hM : Mag h l (a.natAbs * p.natAbs)) : (0 ≤ a * p ∧ (h : Int) * 18446744073709551616 + l = a * p) ∨ (a * p ≤ 0 ∧ (h : Int) * 18446744073709551616 + l = -(a * p)) := by
  have e : a.natAbs * p.natAbs = (a * p).natAbs := (Int.natAbs_mul a p).symm
  unfold Mag at hM
  rw [e] at hM
  omega

theorem prod_small (a p : Int) (hp : -10000 ≤ p ∧ p ≤ 10000) (ha : -9223372036854775808 ≤ a ∧ a ≤ 9223372036854775807) : -92233720368547758080000 ≤ a * p ∧ a * p ≤ 92233720368547758080000 := by
  have := Pct.mul_bound a p 9223372036854775808 10000 (by omega) (by omega) (by omega) (by omega)
  omega

theorem x_val (p a b : Int) (h l : Nat) (hM : Mag h l (a.natAbs * p.natAbs)) (pn bn : Bool) (h1 : pn = false → 0 ≤ a * p) (h2 : pn = true → a * p ≤ 0) (h3 : bn = decide (b < 0)) :
    sg pn ((h : Int) * 18446744073709551616 + l) + sg bn (b.natAbs : Int) = a * p + b := by
  have := prod_abs a p h l hM
  have e : sg bn (b.natAbs : Int) = b := by
    subst h3
    unfold sg
    by_cases hb : b < 0 <;> simp [hb] <;> omega
  rw [e]
  cases pn
  · have := h1 rfl; simp only [sg, Bool.false_eq_true, if_false]; omega
  · have := h2 rfl; simp only [sg, if_true]; omega

theorem h_small (p a b X : Int) (hp : -10000 ≤ p ∧ p ≤ 10000) (ha : -9223372036854775808 ≤ a ∧ a ≤ 9223372036854775807) (hb : -9223372036754785807 ≤ b ∧ b ≤ 9223372036754785807)
    (hX : X = a * p + b) (n : Bool) (h l : Nat) (hs : Sig X n h l) : h < 10000 ∧ l < 18446744073709551616 := by
  have := prod_small a p hp ha
  refine ⟨?_, hs.lt⟩
  cases n
  · have := hs.pos rfl; omega
  · have := hs.neg rfl; omega

theorem mul_lt (a p : Int) (h l : Nat) (hp : -10000 ≤ p ∧ p ≤ 10000) (ha : -9223372036854775808 ≤ a ∧ a ≤ 9223372036854775807) (hM : Mag h l (a.natAbs * p.natAbs)) : h < 1000000 ∧ l < 18446744073709551616 := by
  have h1 := prod_abs a p h l hM
  have h2 := prod_small a p hp ha
  exact ⟨by omega, hM.2⟩

theorem fit_pos {p a b : Int} {q r h l : Nat} {op : Bool} (hS : Sig (a * p + b) false h l) (HQ : h * 18446744073709551616 + l = q * 10000 + r ∧ r < 10000) (hq : (q : Int) ≤ 9223372036854775807)
    (hop : op = false → (0 ≤ a * p ∧ 0 ≤ b) ∨ (a * p ≤ 0 ∧ b ≤ 0)) (hr : ((r : Int) == 0) = false → op = true → ¬ (q : Int) = 9223372036854775807) : Fit p a b q ((r : Int) == 0) 1 op := by
  obtain ⟨h1, h2⟩ := hS.pos rfl
  have ht : (a * p + b).tdiv 10000 = (q : Int) := by
    rw [Int.tdiv_eq_ediv_of_nonneg h1]; omega
  refine ⟨ht.symm, by omega, hq, ?_, ?_, hop, ?_⟩
  · intro e; have : (r : Int) = 0 := by simpa using e
    omega
  · rw [if_neg (by omega)]
  · intro e f; have := hr e f; omega

theorem fit_neg {p a b : Int} {q r h l : Nat} {op : Bool} (hS : Sig (a * p + b) true h l) (HQ : h * 18446744073709551616 + l = q * 10000 + r ∧ r < 10000) (hq : (q : Int) ≤ 9223372036854775808)
    (hop : op = false → (0 ≤ a * p ∧ 0 ≤ b) ∨ (a * p ≤ 0 ∧ b ≤ 0)) (hr : ((r : Int) == 0) = false → op = true → (q : Int) ≤ 9223372036854775807) (t : Int) (e : t = -(q : Int)) : Fit p a b t ((r : Int) == 0) (-1) op := by
  subst e
  obtain ⟨h1, h2⟩ := hS.neg rfl
  have ht : (a * p + b).tdiv 10000 = -(q : Int) := by
    rcases Pct.td (a * p + b) with ⟨c, _⟩ | ⟨_, d⟩
    · omega
    · rw [d]; omega
  refine ⟨ht.symm, by omega, by omega, ?_, ?_, hop, ?_⟩
  · intro e; have : (r : Int) = 0 := by simpa using e
    omega
  · rw [if_pos h1]
  · intro e f; have := hr e f; omega

theorem r_ex {r q : Nat} {op : Bool} {m : Int} (h : (!((r : Int) == 0)) = false) : ((r : Int) == 0) = false → op = true → ¬ (q : Int) = m := by
  intro e; rw [e] at h; cases h
theorem r_ex' {r q : Nat} {op : Bool} {m : Int} (h : (!((r : Int) == 0)) = false) : ((r : Int) == 0) = false → op = true → (q : Int) ≤ m := by
  intro e; rw [e] at h; cases h
theorem r_op {r q : Nat} {m : Int} : ((r : Int) == 0) = false → false = true → ¬ (q : Int) = m := by
  intro _ h; cases h
theorem r_op' {r q : Nat} {m : Int} : ((r : Int) == 0) = false → false = true → (q : Int) ≤ m := by
  intro _ h; cases h
theorem r_ne {r q : Nat} {op : Bool} {m : Int} (h : ((q : Int) == m) = false) : ((r : Int) == 0) = false → op = true → ¬ (q : Int) = m := by
  intro _ _; simpa using h

theorem signs_pos (a p : Int) (h : 0 < a * p) : (decide (a < 0) == decide (p < 0)) = true := by
  by_cases ha : a < 0 <;> by_cases hp : p < 0
  · simp [ha, hp]
  · have := Int.mul_nonpos_of_nonpos_of_nonneg (show a ≤ 0 by omega) (show 0 ≤ p by omega); omega
  · have := Int.mul_nonpos_of_nonneg_of_nonpos (show 0 ≤ a by omega) (show p ≤ 0 by omega); omega
  · simp [ha, hp]
theorem signs_neg (a p : Int) (h : a * p < 0) : (decide (a < 0) == decide (p < 0)) = false := by
  by_cases ha : a < 0 <;> by_cases hp : p < 0
  · have := Int.mul_nonneg_of_nonpos_of_nonpos (show a ≤ 0 by omega) (show p ≤ 0 by omega); omega
  · simp [ha, hp]
  · simp [ha, hp]
  · have := Int.mul_nonneg (show 0 ≤ a by omega) (show 0 ≤ p by omega); omega

set_option maxHeartbeats 1000000 in
theorem mod_pn (p a b : Int) (hp : -10000 ≤ p ∧ p ≤ 10000) (ha : -9223372036854775808 ≤ a ∧ a ≤ 9223372036854775807) (hb : -9223372036754785807 ≤ b ∧ b ≤ 9223372036754785807)
    (hA : Hid (0 < a * p)) (hb0 : b < 0) (w : World) :
    Calls Try.prog 16 #[.int .i64 p, .int .i64 a, .int .i64 b] w fun e w' => ModPost p a b w e w' := by
  have hpn : (decide (a < 0) == decide (p < 0)) = true := signs_pos a p hA.out
  go_enter Try.func16, Try.ntmps16
  go_wp2_with fail
  refine (abs_any a ha _).mono ?_
  rintro e w' ⟨rfl, rfl⟩
  go_wp2_with fail
  refine (abs_any p (by omega) _).mono ?_
  rintro e w' ⟨rfl, rfl⟩
  go_wp2_with fail
  refine (mul_any a.natAbs p.natAbs (by omega) (by omega) _).mono ?_
  rintro e w' ⟨h, l, rfl, hM, rfl⟩
  have ml := mul_lt a p h l hp ha hM
  have hmm := prod_abs a p h l hM
  have hX := x_val p a b h l hM false true (fun _ => by have := hA.out; omega) (by intro h; cases h) (by simp [hb0])
  have MLL : h < 1000000 ∧ l < 18446744073709551616 := ml
  have HX : Hid _ := hX
  clear hX
  by_cases hz : h = 0
  · subst hz
    have l0 : ((l : Int) == 0) = false := by have := hA.out; simp; omega
    clear hmm
    clear ml hM
    go_wp2_with fail
    refine (abs_any b (by omega) _).mono ?_
    rintro e w' ⟨rfl, rfl⟩
    go_wp2_with fail
    refine (add_any false true 0 l b.natAbs MLL.1 MLL.2 (by omega) _).mono ?_
    rintro e w' ⟨n, h', l', rfl, hS, rfl⟩
    rw [HX.out] at hS
    have hs := h_small p a b _ hp ha hb rfl n h' l' hS
    clear HX
    cases n
    · go_wp2_with fail
      refine (div_mag h' l' hs.1 hs.2 _).mono ?_
      rintro e w' ⟨q, r, rfl, HQ, rfl⟩
      clear hs
      go_wp2_with fail
      all_goals
        refine bodyPost_ret (results_tmp5 rfl _ _ _) rfl ?_
        first
          | exact mod_no _ _ _ _
          | exact mod_yes _ _ _ _ _ _ _ _ (fit_pos hS HQ.out ‹_› (by intro h; cases h) (r_ne ‹_›))
          | exact mod_yes _ _ _ _ _ _ _ _ (fit_pos hS HQ.out ‹_› (by intro h; cases h) (r_ex ‹_›))
    · go_wp2_with fail
      refine (div_mag h' l' hs.1 hs.2 _).mono ?_
      rintro e w' ⟨q, r, rfl, HQ, rfl⟩
      clear hs
      by_cases hq : (q : Int) ≤ 9223372036854775807
      · go_wp2_with fail
        all_goals
          refine bodyPost_ret (results_tmp5 rfl _ _ _) rfl ?_
          first
            | exact mod_no _ _ _ _
            | exact mod_yes _ _ _ _ _ _ _ _ (fit_neg hS HQ.out (by omega) (by intro h; cases h) (fun _ _ => hq) _ rfl)
      · go_wp2_with fail
        all_goals
          refine bodyPost_ret (results_tmp5 rfl _ _ _) rfl ?_
          first
            | exact mod_no _ _ _ _
            | exact mod_yes _ _ _ _ _ _ _ _ (fit_neg hS HQ.out ‹_› (by intro h; cases h) (r_ex' ‹_›) _ (by omega))
  · have z0 : ((h : Int) == 0) = false := by simp; omega
    clear hmm
    clear ml hM
    go_wp2_with fail
    refine (abs_any b (by omega) _).mono ?_
    rintro e w' ⟨rfl, rfl⟩
    go_wp2_with fail
    refine (add_any false true h l b.natAbs MLL.1 MLL.2 (by omega) _).mono ?_
    rintro e w' ⟨n, h', l', rfl, hS, rfl⟩
    rw [HX.out] at hS
    have hs := h_small p a b _ hp ha hb rfl n h' l' hS
    clear HX
    cases n
    · go_wp2_with fail
      refine (div_mag h' l' hs.1 hs.2 _).mono ?_
      rintro e w' ⟨q, r, rfl, HQ, rfl⟩
      clear hs
      go_wp2_with fail
      all_goals
        refine bodyPost_ret (results_tmp5 rfl _ _ _) rfl ?_
        first
          | exact mod_no _ _ _ _
          | exact mod_yes _ _ _ _ _ _ _ _ (fit_pos hS HQ.out ‹_› (by intro h; cases h) (r_ne ‹_›))
          | exact mod_yes _ _ _ _ _ _ _ _ (fit_pos hS HQ.out ‹_› (by intro h; cases h) (r_ex ‹_›))
    · go_wp2_with fail
      refine (div_mag h' l' hs.1 hs.2 _).mono ?_
      rintro e w' ⟨q, r, rfl, HQ, rfl⟩
      clear hs
      by_cases hq : (q : Int) ≤ 9223372036854775807
      · go_wp2_with fail
        all_goals
          refine bodyPost_ret (results_tmp5 rfl _ _ _) rfl ?_
          first
            | exact mod_no _ _ _ _
            | exact mod_yes _ _ _ _ _ _ _ _ (fit_neg hS HQ.out (by omega) (by intro h; cases h) (fun _ _ => hq) _ rfl)
      · go_wp2_with fail
        all_goals
          refine bodyPost_ret (results_tmp5 rfl _ _ _) rfl ?_
          first
            | exact mod_no _ _ _ _
            | exact mod_yes _ _ _ _ _ _ _ _ (fit_neg hS HQ.out ‹_› (by intro h; cases h) (r_ex' ‹_›) _ (by omega))

set_option maxHeartbeats 1000000 in
theorem mod_pp (p a b : Int) (hp : -10000 ≤ p ∧ p ≤ 10000) (ha : -9223372036854775808 ≤ a ∧ a ≤ 9223372036854775807) (hb : -9223372036754785807 ≤ b ∧ b ≤ 9223372036754785807)
    (hA : Hid (0 < a * p)) (hb0 : 0 ≤ b) (w : World) :
    Calls Try.prog 16 #[.int .i64 p, .int .i64 a, .int .i64 b] w fun e w' => ModPost p a b w e w' := by
  have hpn : (decide (a < 0) == decide (p < 0)) = true := signs_pos a p hA.out
  have HO : Hid ((0 ≤ a * p ∧ 0 ≤ b) ∨ (a * p ≤ 0 ∧ b ≤ 0)) := (.inl ⟨by have := hA.out; omega, hb0⟩ : (0 ≤ a * p ∧ 0 ≤ b) ∨ (a * p ≤ 0 ∧ b ≤ 0))
  have hbd : decide (b < 0) = false := decide_eq_false (by omega)
  go_enter Try.func16, Try.ntmps16
  go_wp2_with fail
  refine (abs_any a ha _).mono ?_
  rintro e w' ⟨rfl, rfl⟩
  go_wp2_with fail
  refine (abs_any p (by omega) _).mono ?_
  rintro e w' ⟨rfl, rfl⟩
  go_wp2_with fail
  refine (mul_any a.natAbs p.natAbs (by omega) (by omega) _).mono ?_
  rintro e w' ⟨h, l, rfl, hM, rfl⟩
  have ml := mul_lt a p h l hp ha hM
  have hmm := prod_abs a p h l hM
  have hX := x_val p a b h l hM false false (fun _ => by have := hA.out; omega) (by intro h; cases h) (by simp; omega)
  have MLL : h < 1000000 ∧ l < 18446744073709551616 := ml
  have HX : Hid _ := hX
  clear hX
  by_cases hz : h = 0
  · subst hz
    have l0 : ((l : Int) == 0) = false := by have := hA.out; simp; omega
    clear hmm
    clear ml hM
    go_wp2_with fail
    refine (abs_any b (by omega) _).mono ?_
    rintro e w' ⟨rfl, rfl⟩
    go_wp2_with fail
    refine (add_any false false 0 l b.natAbs MLL.1 MLL.2 (by omega) _).mono ?_
    rintro e w' ⟨n, h', l', rfl, hS, rfl⟩
    rw [HX.out] at hS
    have hs := h_small p a b _ hp ha hb rfl n h' l' hS
    clear HX
    cases n
    · go_wp2_with fail
      refine (div_mag h' l' hs.1 hs.2 _).mono ?_
      rintro e w' ⟨q, r, rfl, HQ, rfl⟩
      clear hs
      go_wp2_with fail
      all_goals
        refine bodyPost_ret (results_tmp5 rfl _ _ _) rfl ?_
        first
          | exact mod_no _ _ _ _
          | exact mod_yes _ _ _ _ _ _ _ _ (fit_pos hS HQ.out ‹_› (fun _ => HO.out) r_op)
    · go_wp2_with fail
      refine (div_mag h' l' hs.1 hs.2 _).mono ?_
      rintro e w' ⟨q, r, rfl, HQ, rfl⟩
      clear hs
      by_cases hq : (q : Int) ≤ 9223372036854775807
      · go_wp2_with fail
        all_goals
          refine bodyPost_ret (results_tmp5 rfl _ _ _) rfl ?_
          first
            | exact mod_no _ _ _ _
            | exact mod_yes _ _ _ _ _ _ _ _ (fit_neg hS HQ.out (by omega) (fun _ => HO.out) r_op' _ rfl)
      · go_wp2_with fail
        all_goals
          refine bodyPost_ret (results_tmp5 rfl _ _ _) rfl ?_
          first
            | exact mod_no _ _ _ _
            | exact mod_yes _ _ _ _ _ _ _ _ (fit_neg hS HQ.out ‹_› (fun _ => HO.out) r_op' _ (by omega))
  · have z0 : ((h : Int) == 0) = false := by simp; omega
    clear hmm
    clear ml hM
    go_wp2_with fail
    refine (abs_any b (by omega) _).mono ?_
    rintro e w' ⟨rfl, rfl⟩
    go_wp2_with fail
    refine (add_any false false h l b.natAbs MLL.1 MLL.2 (by omega) _).mono ?_
    rintro e w' ⟨n, h', l', rfl, hS, rfl⟩
    rw [HX.out] at hS
    have hs := h_small p a b _ hp ha hb rfl n h' l' hS
    clear HX
    cases n
    · go_wp2_with fail
      refine (div_mag h' l' hs.1 hs.2 _).mono ?_
      rintro e w' ⟨q, r, rfl, HQ, rfl⟩
      clear hs
      go_wp2_with fail
      all_goals
        refine bodyPost_ret (results_tmp5 rfl _ _ _) rfl ?_
        first
          | exact mod_no _ _ _ _
          | exact mod_yes _ _ _ _ _ _ _ _ (fit_pos hS HQ.out ‹_› (fun _ => HO.out) r_op)
    · go_wp2_with fail
      refine (div_mag h' l' hs.1 hs.2 _).mono ?_
      rintro e w' ⟨q, r, rfl, HQ, rfl⟩
      clear hs
      by_cases hq : (q : Int) ≤ 9223372036854775807
      · go_wp2_with fail
        all_goals
          refine bodyPost_ret (results_tmp5 rfl _ _ _) rfl ?_
          first
            | exact mod_no _ _ _ _
            | exact mod_yes _ _ _ _ _ _ _ _ (fit_neg hS HQ.out (by omega) (fun _ => HO.out) r_op' _ rfl)
      · go_wp2_with fail
        all_goals
          refine bodyPost_ret (results_tmp5 rfl _ _ _) rfl ?_
          first
            | exact mod_no _ _ _ _
            | exact mod_yes _ _ _ _ _ _ _ _ (fit_neg hS HQ.out ‹_› (fun _ => HO.out) r_op' _ (by omega))

set_option maxHeartbeats 1000000 in
theorem mod_nn (p a b : Int) (hp : -10000 ≤ p ∧ p ≤ 10000) (ha : -9223372036854775808 ≤ a ∧ a ≤ 9223372036854775807) (hb : -9223372036754785807 ≤ b ∧ b ≤ 9223372036754785807)
    (hA : Hid (a * p < 0)) (hb0 : b < 0) (w : World) :
    Calls Try.prog 16 #[.int .i64 p, .int .i64 a, .int .i64 b] w fun e w' => ModPost p a b w e w' := by
  have hpn : (decide (a < 0) == decide (p < 0)) = false := signs_neg a p hA.out
  have HO : Hid ((0 ≤ a * p ∧ 0 ≤ b) ∨ (a * p ≤ 0 ∧ b ≤ 0)) := (.inr ⟨by have := hA.out; omega, by omega⟩ : (0 ≤ a * p ∧ 0 ≤ b) ∨ (a * p ≤ 0 ∧ b ≤ 0))
  go_enter Try.func16, Try.ntmps16
  go_wp2_with fail
  refine (abs_any a ha _).mono ?_
  rintro e w' ⟨rfl, rfl⟩
  go_wp2_with fail
  refine (abs_any p (by omega) _).mono ?_
  rintro e w' ⟨rfl, rfl⟩
  go_wp2_with fail
  refine (mul_any a.natAbs p.natAbs (by omega) (by omega) _).mono ?_
  rintro e w' ⟨h, l, rfl, hM, rfl⟩
  have ml := mul_lt a p h l hp ha hM
  have hmm := prod_abs a p h l hM
  have hX := x_val p a b h l hM true true (by intro h; cases h) (fun _ => by have := hA.out; omega) (by simp [hb0])
  have MLL : h < 1000000 ∧ l < 18446744073709551616 := ml
  have HX : Hid _ := hX
  clear hX
  by_cases hz : h = 0
  · subst hz
    have l0 : ((l : Int) == 0) = false := by have := hA.out; simp; omega
    clear hmm
    clear ml hM
    go_wp2_with fail
    refine (abs_any b (by omega) _).mono ?_
    rintro e w' ⟨rfl, rfl⟩
    go_wp2_with fail
    refine (add_any true true 0 l b.natAbs MLL.1 MLL.2 (by omega) _).mono ?_
    rintro e w' ⟨n, h', l', rfl, hS, rfl⟩
    rw [HX.out] at hS
    have hs := h_small p a b _ hp ha hb rfl n h' l' hS
    clear HX
    cases n
    · go_wp2_with fail
      refine (div_mag h' l' hs.1 hs.2 _).mono ?_
      rintro e w' ⟨q, r, rfl, HQ, rfl⟩
      clear hs
      go_wp2_with fail
      all_goals
        refine bodyPost_ret (results_tmp5 rfl _ _ _) rfl ?_
        first
          | exact mod_no _ _ _ _
          | exact mod_yes _ _ _ _ _ _ _ _ (fit_pos hS HQ.out ‹_› (fun _ => HO.out) r_op)
    · go_wp2_with fail
      refine (div_mag h' l' hs.1 hs.2 _).mono ?_
      rintro e w' ⟨q, r, rfl, HQ, rfl⟩
      clear hs
      by_cases hq : (q : Int) ≤ 9223372036854775807
      · go_wp2_with fail
        all_goals
          refine bodyPost_ret (results_tmp5 rfl _ _ _) rfl ?_
          first
            | exact mod_no _ _ _ _
            | exact mod_yes _ _ _ _ _ _ _ _ (fit_neg hS HQ.out (by omega) (fun _ => HO.out) r_op' _ rfl)
      · go_wp2_with fail
        all_goals
          refine bodyPost_ret (results_tmp5 rfl _ _ _) rfl ?_
          first
            | exact mod_no _ _ _ _
            | exact mod_yes _ _ _ _ _ _ _ _ (fit_neg hS HQ.out ‹_› (fun _ => HO.out) r_op' _ (by omega))
  · have z0 : ((h : Int) == 0) = false := by simp; omega
    clear hmm
    clear ml hM
    go_wp2_with fail
    refine (abs_any b (by omega) _).mono ?_
    rintro e w' ⟨rfl, rfl⟩
    go_wp2_with fail
    refine (add_any true true h l b.natAbs MLL.1 MLL.2 (by omega) _).mono ?_
    rintro e w' ⟨n, h', l', rfl, hS, rfl⟩
    rw [HX.out] at hS
    have hs := h_small p a b _ hp ha hb rfl n h' l' hS
    clear HX
    cases n
    · go_wp2_with fail
      refine (div_mag h' l' hs.1 hs.2 _).mono ?_
      rintro e w' ⟨q, r, rfl, HQ, rfl⟩
      clear hs
      go_wp2_with fail
      all_goals
        refine bodyPost_ret (results_tmp5 rfl _ _ _) rfl ?_
        first
          | exact mod_no _ _ _ _
          | exact mod_yes _ _ _ _ _ _ _ _ (fit_pos hS HQ.out ‹_› (fun _ => HO.out) r_op)
    · go_wp2_with fail
      refine (div_mag h' l' hs.1 hs.2 _).mono ?_
      rintro e w' ⟨q, r, rfl, HQ, rfl⟩
      clear hs
      by_cases hq : (q : Int) ≤ 9223372036854775807
      · go_wp2_with fail
        all_goals
          refine bodyPost_ret (results_tmp5 rfl _ _ _) rfl ?_
          first
            | exact mod_no _ _ _ _
            | exact mod_yes _ _ _ _ _ _ _ _ (fit_neg hS HQ.out (by omega) (fun _ => HO.out) r_op' _ rfl)
      · go_wp2_with fail
        all_goals
          refine bodyPost_ret (results_tmp5 rfl _ _ _) rfl ?_
          first
            | exact mod_no _ _ _ _
            | exact mod_yes _ _ _ _ _ _ _ _ (fit_neg hS HQ.out ‹_› (fun _ => HO.out) r_op' _ (by omega))

set_option maxHeartbeats 1000000 in
theorem mod_nz (p a b : Int) (hp : -10000 ≤ p ∧ p ≤ 10000) (ha : -9223372036854775808 ≤ a ∧ a ≤ 9223372036854775807) (hb : -9223372036754785807 ≤ b ∧ b ≤ 9223372036754785807)
    (hA : Hid (a * p < 0)) (hb0 : 0 ≤ b) (hb1 : b ≤ 0) (w : World) :
    Calls Try.prog 16 #[.int .i64 p, .int .i64 a, .int .i64 b] w fun e w' => ModPost p a b w e w' := by
  have hpn : (decide (a < 0) == decide (p < 0)) = false := signs_neg a p hA.out
  have HO : Hid ((0 ≤ a * p ∧ 0 ≤ b) ∨ (a * p ≤ 0 ∧ b ≤ 0)) := (.inr ⟨by have := hA.out; omega, by omega⟩ : (0 ≤ a * p ∧ 0 ≤ b) ∨ (a * p ≤ 0 ∧ b ≤ 0))
  have hbd : decide (b < 0) = false := decide_eq_false (by omega)
  have hbe : decide (0 < b) = false := decide_eq_false (by omega)
  go_enter Try.func16, Try.ntmps16
  go_wp2_with fail
  refine (abs_any a ha _).mono ?_
  rintro e w' ⟨rfl, rfl⟩
  go_wp2_with fail
  refine (abs_any p (by omega) _).mono ?_
  rintro e w' ⟨rfl, rfl⟩
  go_wp2_with fail
  refine (mul_any a.natAbs p.natAbs (by omega) (by omega) _).mono ?_
  rintro e w' ⟨h, l, rfl, hM, rfl⟩
  have ml := mul_lt a p h l hp ha hM
  have hmm := prod_abs a p h l hM
  have hX := x_val p a b h l hM true false (by intro h; cases h) (fun _ => by have := hA.out; omega) (by simp; omega)
  have MLL : h < 1000000 ∧ l < 18446744073709551616 := ml
  have HX : Hid _ := hX
  clear hX
  by_cases hz : h = 0
  · subst hz
    have l0 : ((l : Int) == 0) = false := by have := hA.out; simp; omega
    clear hmm
    clear ml hM
    go_wp2_with fail
    refine (abs_any b (by omega) _).mono ?_
    rintro e w' ⟨rfl, rfl⟩
    go_wp2_with fail
    refine (add_any true false 0 l b.natAbs MLL.1 MLL.2 (by omega) _).mono ?_
    rintro e w' ⟨n, h', l', rfl, hS, rfl⟩
    rw [HX.out] at hS
    have hs := h_small p a b _ hp ha hb rfl n h' l' hS
    clear HX
    cases n
    · go_wp2_with fail
      refine (div_mag h' l' hs.1 hs.2 _).mono ?_
      rintro e w' ⟨q, r, rfl, HQ, rfl⟩
      clear hs
      go_wp2_with fail
      all_goals
        refine bodyPost_ret (results_tmp5 rfl _ _ _) rfl ?_
        first
          | exact mod_no _ _ _ _
          | exact mod_yes _ _ _ _ _ _ _ _ (fit_pos hS HQ.out ‹_› (fun _ => HO.out) r_op)
    · go_wp2_with fail
      refine (div_mag h' l' hs.1 hs.2 _).mono ?_
      rintro e w' ⟨q, r, rfl, HQ, rfl⟩
      clear hs
      by_cases hq : (q : Int) ≤ 9223372036854775807
      · go_wp2_with fail
        all_goals
          refine bodyPost_ret (results_tmp5 rfl _ _ _) rfl ?_
          first
            | exact mod_no _ _ _ _
            | exact mod_yes _ _ _ _ _ _ _ _ (fit_neg hS HQ.out (by omega) (fun _ => HO.out) r_op' _ rfl)
      · go_wp2_with fail
        all_goals
          refine bodyPost_ret (results_tmp5 rfl _ _ _) rfl ?_
          first
            | exact mod_no _ _ _ _
            | exact mod_yes _ _ _ _ _ _ _ _ (fit_neg hS HQ.out ‹_› (fun _ => HO.out) r_op' _ (by omega))
  · have z0 : ((h : Int) == 0) = false := by simp; omega
    clear hmm
    clear ml hM
    go_wp2_with fail
    refine (abs_any b (by omega) _).mono ?_
    rintro e w' ⟨rfl, rfl⟩
    go_wp2_with fail
    refine (add_any true false h l b.natAbs MLL.1 MLL.2 (by omega) _).mono ?_
    rintro e w' ⟨n, h', l', rfl, hS, rfl⟩
    rw [HX.out] at hS
    have hs := h_small p a b _ hp ha hb rfl n h' l' hS
    clear HX
    cases n
    · go_wp2_with fail
      refine (div_mag h' l' hs.1 hs.2 _).mono ?_
      rintro e w' ⟨q, r, rfl, HQ, rfl⟩
      clear hs
      go_wp2_with fail
      all_goals
        refine bodyPost_ret (results_tmp5 rfl _ _ _) rfl ?_
        first
          | exact mod_no _ _ _ _
          | exact mod_yes _ _ _ _ _ _ _ _ (fit_pos hS HQ.out ‹_› (fun _ => HO.out) r_op)
    · go_wp2_with fail
      refine (div_mag h' l' hs.1 hs.2 _).mono ?_
      rintro e w' ⟨q, r, rfl, HQ, rfl⟩
      clear hs
      by_cases hq : (q : Int) ≤ 9223372036854775807
      · go_wp2_with fail
        all_goals
          refine bodyPost_ret (results_tmp5 rfl _ _ _) rfl ?_
          first
            | exact mod_no _ _ _ _
            | exact mod_yes _ _ _ _ _ _ _ _ (fit_neg hS HQ.out (by omega) (fun _ => HO.out) r_op' _ rfl)
      · go_wp2_with fail
        all_goals
          refine bodyPost_ret (results_tmp5 rfl _ _ _) rfl ?_
          first
            | exact mod_no _ _ _ _
            | exact mod_yes _ _ _ _ _ _ _ _ (fit_neg hS HQ.out ‹_› (fun _ => HO.out) r_op' _ (by omega))

set_option maxHeartbeats 1000000 in
theorem mod_np (p a b : Int) (hp : -10000 ≤ p ∧ p ≤ 10000) (ha : -9223372036854775808 ≤ a ∧ a ≤ 9223372036854775807) (hb : -9223372036754785807 ≤ b ∧ b ≤ 9223372036754785807)
    (hA : Hid (a * p < 0)) (hb0 : 0 < b) (w : World) :
    Calls Try.prog 16 #[.int .i64 p, .int .i64 a, .int .i64 b] w fun e w' => ModPost p a b w e w' := by
  have hpn : (decide (a < 0) == decide (p < 0)) = false := signs_neg a p hA.out
  have hbd : decide (b < 0) = false := decide_eq_false (by omega)
  go_enter Try.func16, Try.ntmps16
  go_wp2_with fail
  refine (abs_any a ha _).mono ?_
  rintro e w' ⟨rfl, rfl⟩
  go_wp2_with fail
  refine (abs_any p (by omega) _).mono ?_
  rintro e w' ⟨rfl, rfl⟩
  go_wp2_with fail
  refine (mul_any a.natAbs p.natAbs (by omega) (by omega) _).mono ?_
  rintro e w' ⟨h, l, rfl, hM, rfl⟩
  have ml := mul_lt a p h l hp ha hM
  have hmm := prod_abs a p h l hM
  have hX := x_val p a b h l hM true false (by intro h; cases h) (fun _ => by have := hA.out; omega) (by simp; omega)
  have MLL : h < 1000000 ∧ l < 18446744073709551616 := ml
  have HX : Hid _ := hX
  clear hX
  by_cases hz : h = 0
  · subst hz
    have l0 : ((l : Int) == 0) = false := by have := hA.out; simp; omega
    clear hmm
    clear ml hM
    go_wp2_with fail
    refine (abs_any b (by omega) _).mono ?_
    rintro e w' ⟨rfl, rfl⟩
    go_wp2_with fail
    refine (add_any true false 0 l b.natAbs MLL.1 MLL.2 (by omega) _).mono ?_
    rintro e w' ⟨n, h', l', rfl, hS, rfl⟩
    rw [HX.out] at hS
    have hs := h_small p a b _ hp ha hb rfl n h' l' hS
    clear HX
    cases n
    · go_wp2_with fail
      refine (div_mag h' l' hs.1 hs.2 _).mono ?_
      rintro e w' ⟨q, r, rfl, HQ, rfl⟩
      clear hs
      go_wp2_with fail
      all_goals
        refine bodyPost_ret (results_tmp5 rfl _ _ _) rfl ?_
        first
          | exact mod_no _ _ _ _
          | exact mod_yes _ _ _ _ _ _ _ _ (fit_pos hS HQ.out ‹_› (by intro h; cases h) (r_ne ‹_›))
          | exact mod_yes _ _ _ _ _ _ _ _ (fit_pos hS HQ.out ‹_› (by intro h; cases h) (r_ex ‹_›))
    · go_wp2_with fail
      refine (div_mag h' l' hs.1 hs.2 _).mono ?_
      rintro e w' ⟨q, r, rfl, HQ, rfl⟩
      clear hs
      by_cases hq : (q : Int) ≤ 9223372036854775807
      · go_wp2_with fail
        all_goals
          refine bodyPost_ret (results_tmp5 rfl _ _ _) rfl ?_
          first
            | exact mod_no _ _ _ _
            | exact mod_yes _ _ _ _ _ _ _ _ (fit_neg hS HQ.out (by omega) (by intro h; cases h) (fun _ _ => hq) _ rfl)
      · go_wp2_with fail
        all_goals
          refine bodyPost_ret (results_tmp5 rfl _ _ _) rfl ?_
          first
            | exact mod_no _ _ _ _
            | exact mod_yes _ _ _ _ _ _ _ _ (fit_neg hS HQ.out ‹_› (by intro h; cases h) (r_ex' ‹_›) _ (by omega))
  · have z0 : ((h : Int) == 0) = false := by simp; omega
    clear hmm
    clear ml hM
    go_wp2_with fail
    refine (abs_any b (by omega) _).mono ?_
    rintro e w' ⟨rfl, rfl⟩
    go_wp2_with fail
    refine (add_any true false h l b.natAbs MLL.1 MLL.2 (by omega) _).mono ?_
    rintro e w' ⟨n, h', l', rfl, hS, rfl⟩
    rw [HX.out] at hS
    have hs := h_small p a b _ hp ha hb rfl n h' l' hS
    clear HX
    cases n
    · go_wp2_with fail
      refine (div_mag h' l' hs.1 hs.2 _).mono ?_
      rintro e w' ⟨q, r, rfl, HQ, rfl⟩
      clear hs
      go_wp2_with fail
      all_goals
        refine bodyPost_ret (results_tmp5 rfl _ _ _) rfl ?_
        first
          | exact mod_no _ _ _ _
          | exact mod_yes _ _ _ _ _ _ _ _ (fit_pos hS HQ.out ‹_› (by intro h; cases h) (r_ne ‹_›))
          | exact mod_yes _ _ _ _ _ _ _ _ (fit_pos hS HQ.out ‹_› (by intro h; cases h) (r_ex ‹_›))
    · go_wp2_with fail
      refine (div_mag h' l' hs.1 hs.2 _).mono ?_
      rintro e w' ⟨q, r, rfl, HQ, rfl⟩
      clear hs
      by_cases hq : (q : Int) ≤ 9223372036854775807
      · go_wp2_with fail
        all_goals
          refine bodyPost_ret (results_tmp5 rfl _ _ _) rfl ?_
          first
            | exact mod_no _ _ _ _
            | exact mod_yes _ _ _ _ _ _ _ _ (fit_neg hS HQ.out (by omega) (by intro h; cases h) (fun _ _ => hq) _ rfl)
      · go_wp2_with fail
        all_goals
          refine bodyPost_ret (results_tmp5 rfl _ _ _) rfl ?_
          first
            | exact mod_no _ _ _ _
            | exact mod_yes _ _ _ _ _ _ _ _ (fit_neg hS HQ.out ‹_› (by intro h; cases h) (r_ex' ‹_›) _ (by omega))

set_option maxHeartbeats 1000000 in
theorem mod_zn (p a b : Int) (hp : -10000 ≤ p ∧ p ≤ 10000) (ha : -9223372036854775808 ≤ a ∧ a ≤ 9223372036854775807) (hb : -9223372036754785807 ≤ b ∧ b ≤ 9223372036754785807)
    (hA : Hid (a * p = 0)) (hb0 : b < 0) (w : World) :
    Calls Try.prog 16 #[.int .i64 p, .int .i64 a, .int .i64 b] w fun e w' => ModPost p a b w e w' := by
  have HO : Hid ((0 ≤ a * p ∧ 0 ≤ b) ∨ (a * p ≤ 0 ∧ b ≤ 0)) := (.inr ⟨by have := hA.out; omega, by omega⟩ : (0 ≤ a * p ∧ 0 ≤ b) ∨ (a * p ≤ 0 ∧ b ≤ 0))
  go_enter Try.func16, Try.ntmps16
  go_wp2_with fail
  refine (abs_any a ha _).mono ?_
  rintro e w' ⟨rfl, rfl⟩
  go_wp2_with fail
  refine (abs_any p (by omega) _).mono ?_
  rintro e w' ⟨rfl, rfl⟩
  go_wp2_with fail
  refine (mul_any a.natAbs p.natAbs (by omega) (by omega) _).mono ?_
  rintro e w' ⟨h, l, rfl, hM, rfl⟩
  have ml := mul_lt a p h l hp ha hM
  have hmm := prod_abs a p h l hM
  have hX := x_val p a b h l hM false true (fun _ => by have := hA.out; omega) (by intro h; cases h) (by simp [hb0])
  have HX : Hid _ := hX
  have hz : h = 0 ∧ l = 0 := by have := hA.out; omega
  obtain ⟨rfl, rfl⟩ := hz
  clear hX ml hM hmm
  go_wp2_with fail
  refine (abs_any b (by omega) _).mono ?_
  rintro e w' ⟨rfl, rfl⟩
  go_wp2_with fail
  refine (add_any false true 0 0 b.natAbs (by omega) (by omega) (by omega) _).mono ?_
  rintro e w' ⟨n, h', l', rfl, hS, rfl⟩
  rw [HX.out] at hS
  have hs := h_small p a b _ hp ha hb rfl n h' l' hS
  clear HX
  cases n
  · go_wp2_with fail
    refine (div_mag h' l' hs.1 hs.2 _).mono ?_
    rintro e w' ⟨q, r, rfl, HQ, rfl⟩
    clear hs
    go_wp2_with fail
    all_goals
      refine bodyPost_ret (results_tmp5 rfl _ _ _) rfl ?_
      first
        | exact mod_no _ _ _ _
        | exact mod_yes _ _ _ _ _ _ _ _ (fit_pos hS HQ.out ‹_› (fun _ => HO.out) r_op)
  · go_wp2_with fail
    refine (div_mag h' l' hs.1 hs.2 _).mono ?_
    rintro e w' ⟨q, r, rfl, HQ, rfl⟩
    clear hs
    by_cases hq : (q : Int) ≤ 9223372036854775807
    · go_wp2_with fail
      all_goals
        refine bodyPost_ret (results_tmp5 rfl _ _ _) rfl ?_
        first
          | exact mod_no _ _ _ _
          | exact mod_yes _ _ _ _ _ _ _ _ (fit_neg hS HQ.out (by omega) (fun _ => HO.out) r_op' _ rfl)
    · go_wp2_with fail
      all_goals
        refine bodyPost_ret (results_tmp5 rfl _ _ _) rfl ?_
        first
          | exact mod_no _ _ _ _
          | exact mod_yes _ _ _ _ _ _ _ _ (fit_neg hS HQ.out ‹_› (fun _ => HO.out) r_op' _ (by omega))

set_option maxHeartbeats 1000000 in
theorem mod_zp (p a b : Int) (hp : -10000 ≤ p ∧ p ≤ 10000) (ha : -9223372036854775808 ≤ a ∧ a ≤ 9223372036854775807) (hb : -9223372036754785807 ≤ b ∧ b ≤ 9223372036754785807)
    (hA : Hid (a * p = 0)) (hb0 : 0 ≤ b) (w : World) :
    Calls Try.prog 16 #[.int .i64 p, .int .i64 a, .int .i64 b] w fun e w' => ModPost p a b w e w' := by
  have HO : Hid ((0 ≤ a * p ∧ 0 ≤ b) ∨ (a * p ≤ 0 ∧ b ≤ 0)) := (.inl ⟨by have := hA.out; omega, hb0⟩ : (0 ≤ a * p ∧ 0 ≤ b) ∨ (a * p ≤ 0 ∧ b ≤ 0))
  have hbd : decide (b < 0) = false := decide_eq_false (by omega)
  go_enter Try.func16, Try.ntmps16
  go_wp2_with fail
  refine (abs_any a ha _).mono ?_
  rintro e w' ⟨rfl, rfl⟩
  go_wp2_with fail
  refine (abs_any p (by omega) _).mono ?_
  rintro e w' ⟨rfl, rfl⟩
  go_wp2_with fail
  refine (mul_any a.natAbs p.natAbs (by omega) (by omega) _).mono ?_
  rintro e w' ⟨h, l, rfl, hM, rfl⟩
  have ml := mul_lt a p h l hp ha hM
  have hmm := prod_abs a p h l hM
  have hX := x_val p a b h l hM false false (fun _ => by have := hA.out; omega) (by intro h; cases h) (by simp; omega)
  have HX : Hid _ := hX
  have hz : h = 0 ∧ l = 0 := by have := hA.out; omega
  obtain ⟨rfl, rfl⟩ := hz
  clear hX ml hM hmm
  go_wp2_with fail
  refine (abs_any b (by omega) _).mono ?_
  rintro e w' ⟨rfl, rfl⟩
  go_wp2_with fail
  refine (add_any false false 0 0 b.natAbs (by omega) (by omega) (by omega) _).mono ?_
  rintro e w' ⟨n, h', l', rfl, hS, rfl⟩
  rw [HX.out] at hS
  have hs := h_small p a b _ hp ha hb rfl n h' l' hS
  clear HX
  cases n
  · go_wp2_with fail
    refine (div_mag h' l' hs.1 hs.2 _).mono ?_
    rintro e w' ⟨q, r, rfl, HQ, rfl⟩
    clear hs
    go_wp2_with fail
    all_goals
      refine bodyPost_ret (results_tmp5 rfl _ _ _) rfl ?_
      first
        | exact mod_no _ _ _ _
        | exact mod_yes _ _ _ _ _ _ _ _ (fit_pos hS HQ.out ‹_› (fun _ => HO.out) r_op)
  · go_wp2_with fail
    refine (div_mag h' l' hs.1 hs.2 _).mono ?_
    rintro e w' ⟨q, r, rfl, HQ, rfl⟩
    clear hs
    by_cases hq : (q : Int) ≤ 9223372036854775807
    · go_wp2_with fail
      all_goals
        refine bodyPost_ret (results_tmp5 rfl _ _ _) rfl ?_
        first
          | exact mod_no _ _ _ _
          | exact mod_yes _ _ _ _ _ _ _ _ (fit_neg hS HQ.out (by omega) (fun _ => HO.out) r_op' _ rfl)
    · go_wp2_with fail
      all_goals
        refine bodyPost_ret (results_tmp5 rfl _ _ _) rfl ?_
        first
          | exact mod_no _ _ _ _
          | exact mod_yes _ _ _ _ _ _ _ _ (fit_neg hS HQ.out ‹_› (fun _ => HO.out) r_op' _ (by omega))

/-- zzPercentModel, under the law's own bounds -/
theorem mod_any (p a b : Int) (hp : -10000 ≤ p ∧ p ≤ 10000) (ha : -9223372036854775808 ≤ a ∧ a ≤ 9223372036854775807) (hb : -9223372036754785807 ≤ b ∧ b ≤ 9223372036754785807) (w : World) :
    Calls Try.prog 16 #[.int .i64 p, .int .i64 a, .int .i64 b] w fun e w' => ModPost p a b w e w' := by
  by_cases h1 : a * p = 0
  · by_cases h2 : b < 0
    · exact mod_zn p a b hp ha hb h1 h2 w
    · exact mod_zp p a b hp ha hb h1 (by omega) w
  · by_cases h3 : 0 < a * p
    · by_cases h2 : b < 0
      · exact mod_pn p a b hp ha hb h3 h2 w
      · exact mod_pp p a b hp ha hb h3 (by omega) w
    · have h4 : a * p < 0 := by omega
      by_cases h2 : b < 0
      · exact mod_nn p a b hp ha hb h4 h2 w
      · by_cases h5 : 0 < b
        · exact mod_np p a b hp ha hb h4 h5 w
        · exact mod_nz p a b hp ha hb h4 (by omega) (by omega) w

end Go.Proofs.Qxb6601403a
