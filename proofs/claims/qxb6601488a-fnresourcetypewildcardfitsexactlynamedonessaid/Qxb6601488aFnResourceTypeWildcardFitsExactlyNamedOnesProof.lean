/-
  THE PROOF OF 'Rows.FnResourceTypeWildcardFitsExactlyNamedOnesSaid': the frame is the seat's given shell; the walk is mine.
-/
import Derived.Test.Qxb6601488aRows
import Derived.WalkKit
import Derived.ProofKit
import Derived.OpenShut
import Derived.ShutString
import Derived.Below
import Derived.Test.Qxb6601488aFits
import Derived.Test.Qxb6601488aBytes
import Derived.Test.Qxb6601488aAppend
namespace Go.Proofs.Qxb6601488a.fnResourceTypeWildcardFitsExactlyNamedOnes
open Go.ChangeShapes Go.WideShapes Go.ChangeAt Go.RowKit
open Go.ChangeMaps (open_string shut_string)
set_option linter.unusedVariables false      -- a walk need not use every 'w<i>' (that an integer argument fits its kind)

theorem own : ownKnob Try.prog.godebug = none := by kernel_rfl

open Glob (glob) in
theorem wild (t n : List UInt8) : (glob (t ++ [58, 42]) (txt t n) == !n.isEmpty) = true := by
  unfold txt
  cases n with
  | nil => simp [Glob.wild_bare]
  | cons c n => simp [Glob.wild_named]

theorem walk (a0 : ByteArray) (a1 : ByteArray) (w0 : a0.size ≤ maxLen) (w1 : a1.size ≤ maxLen) (w : World) :
    Calls Try.prog 7 #[.string a0, .string a1] w fun e w' => e = .returned (.bool true) ∧ Below w.heap.size w w' := by
  have m0 := w0
  have m1 := w1
  unfold maxLen at m0 m1
  by_cases h : 1048576 < a0.size + a1.size
  · go_enter Try.func7, Try.ntmps7
    go_wp2_with (go_at_call 17; refine (bytesW_no _ _ _ h).mono ?_; rintro e w' ⟨rfl, rfl⟩)
    go_ret
    exact ⟨rfl, Below.refl _ _⟩
  have h' : a0.size + a1.size ≤ 1048576 := by omega
  clear h
  by_cases h0 : 4096 < a0.size
  · go_enter Try.func7, Try.ntmps7
    go_wp2_with (go_at_call 17; refine (bytesW_yes _ _ _ h').mono ?_; rintro e w' ⟨rfl, rfl⟩)
    go_ret
    exact ⟨rfl, Below.refl _ _⟩
  by_cases h1 : 4096 < a1.size
  · go_enter Try.func7, Try.ntmps7
    go_wp2_with (go_at_call 17; refine (bytesW_yes _ _ _ h').mono ?_; rintro e w' ⟨rfl, rfl⟩)
    go_ret
    exact ⟨rfl, Below.refl _ _⟩
  · go_enter Try.func7, Try.ntmps7
    go_wp2_with (go_at_call 17; refine (bytesW_yes _ _ _ h').mono ?_; rintro e w' ⟨rfl, rfl⟩)
    refine (zappend_any a0 a1 _ (by omega) (by omega)).mono ?_
    rintro e w2 ⟨l, ao, cap, rfl, HL, hB, hb⟩
    have hcv := conv_bytes hB cap
    have hl : l.length ≤ 8193 := by
      rw [HL.out]
      unfold txt
      split <;> simp <;> omega
    have z1 : (a0 ++ { data := #[58, 42] } : ByteArray).size ≤ maxLen := by rw [ByteArray.size_append]; unfold maxLen; show a0.size + 2 ≤ _; omega
    have z2 : (⟨l.toArray⟩ : ByteArray).size ≤ maxLen := by unfold maxLen; show l.toArray.size ≤ _; simp; omega
    have Z1 : Hid _ := z1
    have Z2 : Hid _ := z2
    clear z1 z2
    go_wp2_with fail
    refine (zfits_any _ _ _ Z1.out Z2.out).mono ?_
    rintro e w' ⟨rfl, k, rfl⟩
    go_wp2_with fail
    go_ret
    exact ⟨ret_bool (by rw [HL.out, empty_list]; exact wild _ _), below_drewN hb k⟩

/-! ### THE ROW's STEP: WRITTEN OUT: LEAVE IT -/
set_option maxRecDepth 100000 in
theorem lifted (os : Os) (started : os.Started) (H : Type) (enc : TypeId × Value → H) :
    ReturnsInHanded {} Try.checked os 7 .any (Rows.fnResourceTypeWildcardFitsExactlyNamedOnesSpec.pre6 enc Try.prog Try.f7 Rows.fnResourceTypeWildcardFitsExactlyNamedOnesRow.domain false) (Rows.fnResourceTypeWildcardFitsExactlyNamedOnesSpec.post enc Try.prog Try.f7 false true false false) := by
  refine returnsInHanded_of_change (C := Try.checked) own started (by kernel_rfl) Try.func7
    (ChangeSpec.witness6 (enc := enc) (C := Try.checked) false ⟨#[], #[.string ByteArray.empty, .string ByteArray.empty], []⟩ 8 (by kernel_rfl) (by kernel_rfl) (by kernel_rfl) (by kernel_rfl)) ?_
  intro W base args ds gs before hval0 hW hcnd _
  have hval : ∀ (j : Nat) t v, Try.f7.params[j]? = some t → args[j]? = some v → Value.okWide Try.prog W .any base t v := hval0
  have hW' := hW
  obtain ⟨p, q, hA0, hV, rfl, hfz, hnd⟩ := hW
  have hA : DataW.TrodAll enc Try.prog W 0 (fun _ => true) true Try.f7.params.toList args.toList ds p := hA0
  rw [Try.params7] at hA hval
  obtain ⟨v0, vs0, d0, ds0, p0, q0, hargs, rfl, rfl, h0, r0⟩ := trodAll_cons hA
  obtain ⟨v1, vs1, d1, ds1, p1, q1, rfl, rfl, rfl, h1, r1⟩ := trodAll_cons r0
  obtain ⟨rfl, rfl, rfl⟩ := trodAll_nil r1
  obtain rfl : args = #[v0, v1] := by cases args; simp_all
  obtain ⟨rfl, rfl⟩ := trodVars_none hV
  obtain ⟨a0, rfl, rfl, rfl, w0⟩ := open_string Try.underlying9 (hval 0 9 v0 rfl rfl) h0
  obtain ⟨a1, rfl, rfl, rfl, w1⟩ := open_string Try.underlying9 (hval 1 9 v1 rfl rfl) h1
  clear hA0 hval0
  simp only [List.append_nil] at hW'
  refine (walk a0 a1 w0 w1 W).mono fun e W' ⟨he, hg⟩ => ?_
  subst he
  exact ⟨_, rfl, _, _, _, [], [], [], hW', trodAll_mk1 (shut_bool Try.underlying4 _), (trodAll_cons_mk (shut_string Try.underlying9 w0) (trodAll_cons_mk (shut_string Try.underlying9 w1) trodAll_mk0)), rfl, hg.frame _, fun h => by cases h⟩

theorem over : Rows.fnResourceTypeWildcardFitsExactlyNamedOnesRow.holds Try.pinned (OpenSpec.ofChange Rows.fnResourceTypeWildcardFitsExactlyNamedOnesSpec) :=
  OpenClaim.holds_of_wide 7 Try.f7 rfl rfl rfl rfl rfl rfl rfl ⟨rfl, rfl, rfl, rfl, rfl⟩ rfl rfl rfl rfl rfl (by kernel_rfl) Try.func7 (by kernel_rfl)
    (of_decide_eq_true (by kernel_rfl)) (by unfold Func.isWrapper; first | (rw [if_pos (by decide +kernel)]; kernel_rfl) | (rw [if_neg (by decide +kernel)]; exact ⟨rfl, rfl⟩))
    (fun os started H enc _ => lifted os started H enc)

/-- ████ THE STATEMENT ████ -/
theorem proved : Rows.FnResourceTypeWildcardFitsExactlyNamedOnesSaid :=
  over
#print axioms proved
end Go.Proofs.Qxb6601488a.fnResourceTypeWildcardFitsExactlyNamedOnes
