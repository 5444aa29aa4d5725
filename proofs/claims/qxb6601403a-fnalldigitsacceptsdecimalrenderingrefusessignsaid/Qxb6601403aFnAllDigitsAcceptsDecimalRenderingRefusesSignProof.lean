/-
  THE PROOF OF 'Rows.FnAllDigitsAcceptsDecimalRenderingRefusesSignSaid': the frame is the seat's given shell; the walk is mine.
-/
import Derived.Test.Qxb6601403aRows
import Derived.WalkKit
import Derived.ProofKit
import Derived.OpenShut
import Derived.ShutString
import Derived.Test.Qxb6601403aDig
import Derived.Test.Qxb6601403aUtoa
namespace Go.Proofs.Qxb6601403a.fnAllDigitsAcceptsDecimalRenderingRefusesSign
open Go.ChangeShapes Go.WideShapes Go.ChangeAt Go.RowKit
open Go.ChangeMaps (open_string shut_string)
set_option linter.unusedVariables false      -- a walk need not use every 'w<i>' (that an integer argument fits its kind)

theorem own : ownKnob Try.prog.godebug = none := by kernel_rfl

theorem zdig_yes (s : ByteArray) (w : World) (hs : s.size ≤ maxLen) (h : allD s.data.toList = true) :
    Calls Try.prog 13 #[.string s] w fun e w' => e = .returned (.bool true) ∧ w = w' :=
  (zdig_any s w hs).mono fun e w' ⟨a, b⟩ => ⟨by rw [a, h], b⟩
theorem zdig_no (s : ByteArray) (w : World) (hs : s.size ≤ maxLen) (h : allD s.data.toList = false) :
    Calls Try.prog 13 #[.string s] w fun e w' => e = .returned (.bool false) ∧ w = w' :=
  (zdig_any s w hs).mono fun e w' ⟨a, b⟩ => ⟨by rw [a, h], b⟩

/-- a byte ahead that is no digit -/
theorem head_bad (c : UInt8) (s : ByteArray) (h : isDig c = false) : allD ({ data := #[c] } ++ s : ByteArray).data.toList = false := by
  rw [ByteArray.toList_data_append]
  simp [allD, h]
/-- bytes behind of which one is no digit -/
theorem tail_bad (c d : UInt8) (s : ByteArray) (h : isDig c = false) : allD (s ++ { data := #[c, d] } : ByteArray).data.toList = false := by
  rw [ByteArray.toList_data_append]
  simp [allD, h]

theorem walk (a0 : Int) (w0 : (Lit.int .u64 a0).wf = true) (w : World) :
    Calls Try.prog 6 #[.int .u64 a0] w fun e w' => e = .returned (.bool true) ∧ Grown w w' := by
  have b0 := w0
  simp [Lit.wf, IntKind.min, IntKind.max, IntKind.signed, IntKind.bits] at b0
  obtain ⟨n, rfl⟩ : ∃ n : Nat, a0 = n := ⟨a0.toNat, by omega⟩
  go_enter Try.func6, Try.ntmps6
  go_wp2_with fail
  refine (utoa_any n _ (by omega)).mono ?_
  rintro e w1 ⟨s, rfl, hd, hz, hg⟩
  have z1 : ({ data := #[45] } ++ s : ByteArray).size ≤ maxLen := by rw [ByteArray.size_append]; unfold maxLen; show 1 + s.size ≤ _; omega
  have z2 : ({ data := #[43] } ++ s : ByteArray).size ≤ maxLen := by rw [ByteArray.size_append]; unfold maxLen; show 1 + s.size ≤ _; omega
  have z3 : (s ++ { data := #[46, 53] } : ByteArray).size ≤ maxLen := by rw [ByteArray.size_append]; unfold maxLen; show s.size + 2 ≤ _; omega
  have Z1 : Hid _ := z1
  have Z2 : Hid _ := z2
  have Z3 : Hid _ := z3
  clear z1 z2 z3
  go_wp2_with fail
  refine (zdig_yes s _ (by unfold maxLen; omega) hd).mono ?_
  rintro e w' ⟨rfl, rfl⟩
  go_wp2_with fail
  refine (zdig_no _ _ Z1.out (head_bad _ _ (by decide))).mono ?_
  rintro e w' ⟨rfl, rfl⟩
  go_wp2_with fail
  refine (zdig_no _ _ Z2.out (head_bad _ _ (by decide))).mono ?_
  rintro e w' ⟨rfl, rfl⟩
  go_wp2_with fail
  refine (zdig_no _ _ Z3.out (tail_bad _ _ _ (by decide))).mono ?_
  rintro e w' ⟨rfl, rfl⟩
  go_wp2_with fail
  go_ret
  exact ⟨rfl, hg⟩

/-! ### THE ROW's STEP: WRITTEN OUT: LEAVE IT -/
set_option maxRecDepth 100000 in
theorem lifted (os : Os) (started : os.Started) (H : Type) (enc : TypeId × Value → H) :
    ReturnsInHanded {} Try.checked os 6 .any (Rows.fnAllDigitsAcceptsDecimalRenderingRefusesSignSpec.pre6 enc Try.prog Try.f6 Rows.fnAllDigitsAcceptsDecimalRenderingRefusesSignRow.domain false) (Rows.fnAllDigitsAcceptsDecimalRenderingRefusesSignSpec.post enc Try.prog Try.f6 false true false false) := by
  refine returnsInHanded_of_change (C := Try.checked) own started (by kernel_rfl) Try.func6
    (ChangeSpec.witness6 (enc := enc) (C := Try.checked) false ⟨#[], #[.int .u64 0], []⟩ 8 (by kernel_rfl) (by kernel_rfl) (by kernel_rfl) (by kernel_rfl)) ?_
  intro W base args ds gs before hval0 hW hcnd _
  have hval : ∀ (j : Nat) t v, Try.f6.params[j]? = some t → args[j]? = some v → Value.okWide Try.prog W .any base t v := hval0
  have hW' := hW
  obtain ⟨p, q, hA0, hV, rfl, hfz, hnd⟩ := hW
  have hA : DataW.TrodAll enc Try.prog W 0 (fun _ => true) true Try.f6.params.toList args.toList ds p := hA0
  rw [Try.params6] at hA hval
  obtain ⟨v0, vs0, d0, ds0, p0, q0, hargs, rfl, rfl, h0, r0⟩ := trodAll_cons hA
  obtain ⟨rfl, rfl, rfl⟩ := trodAll_nil r0
  obtain rfl : args = #[v0] := by cases args; simp_all
  obtain ⟨rfl, rfl⟩ := trodVars_none hV
  obtain ⟨a0, rfl, rfl, rfl, w0⟩ := open_int Try.underlying27 (hval 0 27 v0 rfl rfl) h0
  clear hA0 hval0
  simp only [List.append_nil] at hW'
  refine (walk a0 w0 W).mono fun e W' ⟨he, hg⟩ => ?_
  subst he
  exact ⟨_, rfl, post_of_same (pa := []) (pv := []) hW' (fun _ _ _ => (trodAll_cons_mk (shut_bool Try.underlying4 _) trodAll_mk0)) (fun sp _ => (trodAll_cons_mk (shut_int Try.underlying27 w0) trodAll_mk0)) (fun _ _ => rfl) rfl
    (hg.frame _) hg.2.1 (ok_one (by kernel_rfl) rfl (okWide_bool_mk Try.underlying4 _))⟩

theorem over : Rows.fnAllDigitsAcceptsDecimalRenderingRefusesSignRow.holds Try.pinned (OpenSpec.ofChange Rows.fnAllDigitsAcceptsDecimalRenderingRefusesSignSpec) :=
  OpenClaim.holds_of_wide 6 Try.f6 rfl rfl rfl rfl rfl rfl rfl ⟨rfl, rfl, rfl, rfl, rfl⟩ rfl rfl rfl rfl rfl (by kernel_rfl) Try.func6 (by kernel_rfl)
    (of_decide_eq_true (by kernel_rfl)) (by unfold Func.isWrapper; first | (rw [if_pos (by decide +kernel)]; kernel_rfl) | (rw [if_neg (by decide +kernel)]; exact ⟨rfl, rfl⟩))
    (fun os started H enc _ => lifted os started H enc)

/-- ████ THE STATEMENT ████ -/
theorem proved : Rows.FnAllDigitsAcceptsDecimalRenderingRefusesSignSaid :=
  over
#print axioms proved
end Go.Proofs.Qxb6601403a.fnAllDigitsAcceptsDecimalRenderingRefusesSign
