/-
  THE PROOF OF 'Rows.FnPercentOfWithinOneOfExactQuotientSaid': the frame is the seat's given shell; the walk is mine.
-/
import Derived.Test.Qxb6601403aRows
import Derived.WalkKit
import Derived.ProofKit
import Derived.OpenShut
import Derived.ShutString
import Derived.Test.Qxb6601403aPctOf
import Derived.Test.Qxb6601403aModel
namespace Go.Proofs.Qxb6601403a.fnPercentOfWithinOneOfExactQuotient
open Go.ChangeShapes Go.WideShapes Go.ChangeAt Go.RowKit
open Go.ChangeMaps (open_string shut_string)
set_option linter.unusedVariables false      -- a walk need not use every 'w<i>' (that an integer argument fits its kind)

theorem own : ownKnob Try.prog.godebug = none := by kernel_rfl

/-- whole blocks and the rest, without a wrap -/
theorem pof_plain (p a b : Int) (hp : -10000 ≤ p ∧ p ≤ 10000) (ha : -9223372036854775808 ≤ a ∧ a ≤ 9223372036854775807) (hb : -9223372036754785807 ≤ b ∧ b ≤ 9223372036754785807) :
    pof p a b = wrap64 (a.tdiv 10000 * p + (a.tmod 10000 * p + b).tdiv 10000) := by
  have hd := Pct.td a
  have hm := Pct.tm a
  have m1 := Pct.mul_bound (a.tdiv 10000) p 922337203685477 10000 (by omega) hp (by omega) (by omega)
  have m2 := Pct.mul_bound (a.tmod 10000) p 9999 10000 (by omega) hp (by omega) (by omega)
  have e1 : wrap64 (a.tdiv 10000) = a.tdiv 10000 := IntWalk.wrap64_in _ (by omega)
  have e2 : wrap64 (a.tdiv 10000 * p) = a.tdiv 10000 * p := IntWalk.wrap64_in _ (by omega)
  have e3 : wrap64 (a.tmod 10000 * p) = a.tmod 10000 * p := IntWalk.wrap64_in _ (by omega)
  have e4 : wrap64 (a.tmod 10000 * p + b) = a.tmod 10000 * p + b := IntWalk.wrap64_in _ (by omega)
  have hq := Pct.td (a.tmod 10000 * p + b)
  have e5 : wrap64 ((a.tmod 10000 * p + b).tdiv 10000) = (a.tmod 10000 * p + b).tdiv 10000 := IntWalk.wrap64_in _ (by omega)
  unfold pof
  rw [e1, e2, e3, e4, e5]

theorem x_parts (p a b : Int) : a * p + b = a.tdiv 10000 * p * 10000 + (a.tmod 10000 * p + b) := by
  have h := Pct.parts a
  have : a * p = a.tdiv 10000 * p * 10000 + a.tmod 10000 * p := by
    conv => lhs; rw [h]
    rw [Int.add_mul, Int.mul_assoc, Int.mul_comm 10000 p, ← Int.mul_assoc]
  omega

/-- the law's answer, where the model says that the exact answer fits -/
theorem near (p a b t : Int) (ex : Bool) (st : Int) (op : Bool) (hp : -10000 ≤ p ∧ p ≤ 10000) (ha : -9223372036854775808 ≤ a ∧ a ≤ 9223372036854775807) (hb : -9223372036754785807 ≤ b ∧ b ≤ 9223372036754785807)
    (f : Fit p a b t ex st op) : (ex = true → pof p a b = t) ∧ (op = false → pof p a b = t) ∧ (pof p a b = t ∨ (ex = false → op = true → pof p a b = t + st ∧ wrap64 (t + st) = t + st)) := by
  have hx := x_parts p a b
  have hpl := pof_plain p a b hp ha hb
  have fit : ∀ z : Int, z = t → wrap64 z = t := fun z e => by rw [e]; exact IntWalk.wrap64_in t ⟨f.lo, f.hi⟩
  refine ⟨?_, ?_, ?_⟩
  · intro e
    rw [hpl]
    apply fit
    rw [f.quo]
    exact Pct.exact_law _ _ _ hx (f.exact e)
  · intro e
    rw [hpl]
    apply fit
    rw [f.quo]
    refine Pct.same_law _ _ _ hx ?_
    have sn := Pct.signs a p
    have sm := f.same e
    omega
  · rcases Pct.near_law _ _ _ hx with h | h
    · left
      rw [hpl]
      apply fit
      rw [f.quo]; exact h
    · right
      intro e1 e2
      have hr := f.room e1 e2
      rw [← f.step, ← f.quo] at h
      have hw : wrap64 (t + st) = t + st := IntWalk.wrap64_in _ hr
      exact ⟨by rw [hpl, h]; exact hw, hw⟩

set_option maxHeartbeats 1000000 in
theorem walk (a0 : Int) (a1 : Int) (a2 : Int) (w0 : (Lit.int .i64 a0).wf = true) (w1 : (Lit.int .i64 a1).wf = true) (w2 : (Lit.int .i64 a2).wf = true) (w : World) :
    Calls Try.prog 7 #[.int .i64 a0, .int .i64 a1, .int .i64 a2] w fun e w' => e = .returned (.bool true) ∧ Grown w w' := by
  have b0 := w0
  have b1 := w1
  have b2 := w2
  simp [Lit.wf, IntKind.min, IntKind.max, IntKind.signed, IntKind.bits] at b0 b1 b2
  by_cases c1 : a0 < -10000
  · go_enter Try.func7, Try.ntmps7
    go_wp2
    go_ret
    exact ⟨rfl, Grown.refl _⟩
  by_cases c2 : 10000 < a0
  · go_enter Try.func7, Try.ntmps7
    go_wp2
    go_ret
    exact ⟨rfl, Grown.refl _⟩
  by_cases c3 : a2 < -9223372036754785807
  · go_enter Try.func7, Try.ntmps7
    go_wp2
    go_ret
    exact ⟨rfl, Grown.refl _⟩
  by_cases c4 : 9223372036754785807 < a2
  · go_enter Try.func7, Try.ntmps7
    go_wp2
    go_ret
    exact ⟨rfl, Grown.refl _⟩
  have hp : -10000 ≤ a0 ∧ a0 ≤ 10000 := by omega
  have hb : -9223372036754785807 ≤ a2 ∧ a2 ≤ 9223372036754785807 := by omega
  go_enter Try.func7, Try.ntmps7
  go_wp2_with fail
  refine (mod_any a0 a1 a2 hp b1 hb _).mono ?_
  rintro e w' ⟨he, rfl⟩
  rcases he with rfl | ⟨t, ex, st, op, rfl, hf⟩
  · go_wp2_with fail
    go_ret
    exact ⟨rfl, Grown.refl _⟩
  · have hn := near a0 a1 a2 t ex st op hp b1 hb hf
    have HN : Hid _ := hn
    clear hn hf
    cases ex
    · cases op
      · have e := HN.out.2.1 rfl
        have HE : Hid _ := e
        clear e HN
        go_wp2_with fail
        refine (pof_any _ _ _ _).mono ?_
        rintro e w' ⟨rfl, rfl⟩
        go_wp2_with fail
        go_ret
        exact ⟨by rw [HE.out]; simp, (Grown.refl _).drew⟩
      · by_cases e : pof a0 a1 a2 = t
        · have HE : Hid _ := e
          have eb : (pof a0 a1 a2 == t) = true := by simp [e]
          clear e HN
          go_wp2_with fail
          refine (pof_any _ _ _ _).mono ?_
          rintro e w' ⟨rfl, rfl⟩
          go_wp2_with fail
          go_ret
          exact ⟨rfl, (Grown.refl _).drew⟩
        · have eb : (pof a0 a1 a2 == t) = false := by simp [e]
          have hs : pof a0 a1 a2 = t + st ∧ wrap64 (t + st) = t + st := by
            rcases HN.out.2.2 with h | h
            · exact absurd h e
            · exact h rfl rfl
          have HE : Hid _ := hs
          clear e HN hs
          go_wp2_with fail
          refine (pof_any _ _ _ _).mono ?_
          rintro e w' ⟨rfl, rfl⟩
          go_wp2_with fail
          go_ret
          exact ⟨by rw [HE.out.2, HE.out.1]; simp, (Grown.refl _).drew⟩
    · have e := HN.out.1 rfl
      have HE : Hid _ := e
      clear e HN
      go_wp2_with fail
      refine (pof_any _ _ _ _).mono ?_
      rintro e w' ⟨rfl, rfl⟩
      go_wp2_with fail
      go_ret
      exact ⟨by rw [HE.out]; simp, (Grown.refl _).drew⟩

/-! ### THE ROW's STEP: WRITTEN OUT: LEAVE IT -/
set_option maxRecDepth 100000 in
theorem lifted (os : Os) (started : os.Started) (H : Type) (enc : TypeId × Value → H) :
    ReturnsInHanded {} Try.checked os 7 .any (Rows.fnPercentOfWithinOneOfExactQuotientSpec.pre6 enc Try.prog Try.f7 Rows.fnPercentOfWithinOneOfExactQuotientRow.domain false) (Rows.fnPercentOfWithinOneOfExactQuotientSpec.post enc Try.prog Try.f7 false true false false) := by
  refine returnsInHanded_of_change (C := Try.checked) own started (by kernel_rfl) Try.func7
    (ChangeSpec.witness6 (enc := enc) (C := Try.checked) false ⟨#[], #[.int .i64 0, .int .i64 0, .int .i64 0], []⟩ 8 (by kernel_rfl) (by kernel_rfl) (by kernel_rfl) (by kernel_rfl)) ?_
  intro W base args ds gs before hval0 hW hcnd _
  have hval : ∀ (j : Nat) t v, Try.f7.params[j]? = some t → args[j]? = some v → Value.okWide Try.prog W .any base t v := hval0
  have hW' := hW
  obtain ⟨p, q, hA0, hV, rfl, hfz, hnd⟩ := hW
  have hA : DataW.TrodAll enc Try.prog W 0 (fun _ => true) true Try.f7.params.toList args.toList ds p := hA0
  rw [Try.params7] at hA hval
  obtain ⟨v0, vs0, d0, ds0, p0, q0, hargs, rfl, rfl, h0, r0⟩ := trodAll_cons hA
  obtain ⟨v1, vs1, d1, ds1, p1, q1, rfl, rfl, rfl, h1, r1⟩ := trodAll_cons r0
  obtain ⟨v2, vs2, d2, ds2, p2, q2, rfl, rfl, rfl, h2, r2⟩ := trodAll_cons r1
  obtain ⟨rfl, rfl, rfl⟩ := trodAll_nil r2
  obtain rfl : args = #[v0, v1, v2] := by cases args; simp_all
  obtain ⟨rfl, rfl⟩ := trodVars_none hV
  obtain ⟨a0, rfl, rfl, rfl, w0⟩ := open_int Try.underlying2 (hval 0 2 v0 rfl rfl) h0
  obtain ⟨a1, rfl, rfl, rfl, w1⟩ := open_int Try.underlying2 (hval 1 2 v1 rfl rfl) h1
  obtain ⟨a2, rfl, rfl, rfl, w2⟩ := open_int Try.underlying2 (hval 2 2 v2 rfl rfl) h2
  clear hA0 hval0
  simp only [List.append_nil] at hW'
  refine (walk a0 a1 a2 w0 w1 w2 W).mono fun e W' ⟨he, hg⟩ => ?_
  subst he
  exact ⟨_, rfl, post_of_same (pa := []) (pv := []) hW' (fun _ _ _ => (trodAll_cons_mk (shut_bool Try.underlying4 _) trodAll_mk0)) (fun sp _ => (trodAll_cons_mk (shut_int Try.underlying2 w0) (trodAll_cons_mk (shut_int Try.underlying2 w1) (trodAll_cons_mk (shut_int Try.underlying2 w2) trodAll_mk0)))) (fun _ _ => rfl) rfl
    (hg.frame _) hg.2.1 (ok_one (by kernel_rfl) rfl (okWide_bool_mk Try.underlying4 _))⟩

theorem over : Rows.fnPercentOfWithinOneOfExactQuotientRow.holds Try.pinned (OpenSpec.ofChange Rows.fnPercentOfWithinOneOfExactQuotientSpec) :=
  OpenClaim.holds_of_wide 7 Try.f7 rfl rfl rfl rfl rfl rfl rfl ⟨rfl, rfl, rfl, rfl, rfl⟩ rfl rfl rfl rfl rfl (by kernel_rfl) Try.func7 (by kernel_rfl)
    (of_decide_eq_true (by kernel_rfl)) (by unfold Func.isWrapper; first | (rw [if_pos (by decide +kernel)]; kernel_rfl) | (rw [if_neg (by decide +kernel)]; exact ⟨rfl, rfl⟩))
    (fun os started H enc _ => lifted os started H enc)

/-- ████ THE STATEMENT ████ -/
theorem proved : Rows.FnPercentOfWithinOneOfExactQuotientSaid :=
  over
#print axioms proved
end Go.Proofs.Qxb6601403a.fnPercentOfWithinOneOfExactQuotient
