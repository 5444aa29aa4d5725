/-
  THE PROOF OF 'Rows.FnResourceTextInjectiveForColonFreeTypesSaid': the frame is the seat's given shell; the walk is mine.
-/
import Derived.Test.Qxb6601488aRows
import Derived.WalkKit
import Derived.ProofKit
import Derived.OpenShut
import Derived.ShutString
import Derived.Below
import Derived.Test.Qxb6601488aFits
import Derived.Test.Qxb6601488aBytes
import Derived.Test.Qxb6601488aAppend
import Derived.Test.Qxb6601488aSame
namespace Go.Proofs.Qxb6601488a.fnResourceTextInjectiveForColonFreeTypes
open Go.ChangeShapes Go.WideShapes Go.ChangeAt Go.RowKit
open Go.ChangeMaps (open_string shut_string)
set_option linter.unusedVariables false      -- a walk need not use every 'w<i>' (that an integer argument fits its kind)

theorem own : ownKnob Try.prog.godebug = none := by kernel_rfl

theorem colon_yes (s : ByteArray) (w : World) (hs : s.size ≤ maxLen) (h : colon s.data.toList = true) :
    Calls Try.prog 14 #[.string s] w fun e w' => e = .returned (.bool true) ∧ w = w' :=
  (colon_any s w hs).mono fun e w' ⟨a, b⟩ => ⟨by rw [a, h], b⟩
theorem colon_no (s : ByteArray) (w : World) (hs : s.size ≤ maxLen) (h : colon s.data.toList = false) :
    Calls Try.prog 14 #[.string s] w fun e w' => e = .returned (.bool false) ∧ w = w' :=
  (colon_any s w hs).mono fun e w' ⟨a, b⟩ => ⟨by rw [a, h], b⟩

set_option maxHeartbeats 1000000 in
theorem walk (a0 : ByteArray) (a1 : ByteArray) (a2 : ByteArray) (a3 : ByteArray) (w0 : a0.size ≤ maxLen) (w1 : a1.size ≤ maxLen) (w2 : a2.size ≤ maxLen) (w3 : a3.size ≤ maxLen) (w : World) :
    Calls Try.prog 6 #[.string a0, .string a1, .string a2, .string a3] w fun e w' => e = .returned (.bool true) ∧ Below w.heap.size w w' := by
  by_cases h : 1048576 < a0.size + a1.size + a2.size + a3.size
  · go_enter Try.func6, Try.ntmps6
    go_wp2_with (go_at_call 13; refine (bytesR_no _ _ _ _ _ h).mono ?_; rintro e w' ⟨rfl, rfl⟩)
    go_ret
    exact ⟨rfl, Below.refl _ _⟩
  have h' : a0.size + a1.size + a2.size + a3.size ≤ 1048576 := by omega
  clear h
  by_cases h0 : 65536 < a0.size
  · go_enter Try.func6, Try.ntmps6
    go_wp2_with (go_at_call 13; refine (bytesR_yes _ _ _ _ _ h').mono ?_; rintro e w' ⟨rfl, rfl⟩)
    go_ret
    exact ⟨rfl, Below.refl _ _⟩
  by_cases h1 : 65536 < a1.size
  · go_enter Try.func6, Try.ntmps6
    go_wp2_with (go_at_call 13; refine (bytesR_yes _ _ _ _ _ h').mono ?_; rintro e w' ⟨rfl, rfl⟩)
    go_ret
    exact ⟨rfl, Below.refl _ _⟩
  by_cases h2 : 65536 < a2.size
  · go_enter Try.func6, Try.ntmps6
    go_wp2_with (go_at_call 13; refine (bytesR_yes _ _ _ _ _ h').mono ?_; rintro e w' ⟨rfl, rfl⟩)
    go_ret
    exact ⟨rfl, Below.refl _ _⟩
  by_cases h3 : 65536 < a3.size
  · go_enter Try.func6, Try.ntmps6
    go_wp2_with (go_at_call 13; refine (bytesR_yes _ _ _ _ _ h').mono ?_; rintro e w' ⟨rfl, rfl⟩)
    go_ret
    exact ⟨rfl, Below.refl _ _⟩
  cases k0 : colon a0.data.toList
  · cases k2 : colon a2.data.toList
    · have K0 : Hid (colon a0.data.toList = false) := k0
      have K2 : Hid (colon a2.data.toList = false) := k2
      cases e : (a0.toList == a2.toList)
      · go_enter Try.func6, Try.ntmps6
        go_wp2_with fail
        refine (bytesR_yes _ _ _ _ _ h').mono ?_
        rintro e w' ⟨rfl, rfl⟩
        go_wp2_with fail
        refine (colon_no a0 _ w0 k0).mono ?_
        rintro e w' ⟨rfl, rfl⟩
        go_wp2_with fail
        refine (colon_no a2 _ w2 k2).mono ?_
        rintro e w' ⟨rfl, rfl⟩
        go_wp2_with fail
        refine (zappend_any a0 a1 _ (by omega) (by omega)).mono ?_
        rintro e wa ⟨x, ao, ca, rfl, HX, bx, ba⟩
        go_wp2_with fail
        refine (zappend_any a2 a3 _ (by omega) (by omega)).mono ?_
        rintro e wb ⟨y, bo, cb, rfl, HY, by', bb⟩
        have hlx : x.length ≤ 200000 := by have := txt_len a0.data.toList a1.data.toList; rw [HX.out]; rw [len_list, len_list] at this; omega
        have bx' := bx.below bb
        have hB : Below w.heap.size w wb := ba.trans (bb.mono ba.size)
        clear bx ba bb
        go_wp2_with fail
        refine (same_any x y ao bo ca cb _ hlx bx' by').mono ?_
        rintro e w' ⟨rfl, k, rfl⟩
        go_wp2_with fail
        go_ret
        refine ⟨ret_bool ?_, below_drewN hB k⟩
        have hi := inj a0.data.toList a2.data.toList a1.data.toList a3.data.toList K0.out K2.out
        rw [← ByteArray.toList_eq a0, ← ByteArray.toList_eq a2, ← ByteArray.toList_eq a1, ← ByteArray.toList_eq a3] at hi
        rw [HX.out, HY.out]
        rw [← ByteArray.toList_eq a0, ← ByteArray.toList_eq a2, ← ByteArray.toList_eq a1, ← ByteArray.toList_eq a3]
        rw [hi, e]
        simp
      · go_enter Try.func6, Try.ntmps6
        go_wp2_with fail
        refine (bytesR_yes _ _ _ _ _ h').mono ?_
        rintro e w' ⟨rfl, rfl⟩
        go_wp2_with fail
        refine (colon_no a0 _ w0 k0).mono ?_
        rintro e w' ⟨rfl, rfl⟩
        go_wp2_with fail
        refine (colon_no a2 _ w2 k2).mono ?_
        rintro e w' ⟨rfl, rfl⟩
        go_wp2_with fail
        refine (zappend_any a0 a1 _ (by omega) (by omega)).mono ?_
        rintro e wa ⟨x, ao, ca, rfl, HX, bx, ba⟩
        go_wp2_with fail
        refine (zappend_any a2 a3 _ (by omega) (by omega)).mono ?_
        rintro e wb ⟨y, bo, cb, rfl, HY, by', bb⟩
        have hlx : x.length ≤ 200000 := by have := txt_len a0.data.toList a1.data.toList; rw [HX.out]; rw [len_list, len_list] at this; omega
        have bx' := bx.below bb
        have hB : Below w.heap.size w wb := ba.trans (bb.mono ba.size)
        clear bx ba bb
        go_wp2_with fail
        refine (same_any x y ao bo ca cb _ hlx bx' by').mono ?_
        rintro e w' ⟨rfl, k, rfl⟩
        go_wp2_with fail
        go_ret
        refine ⟨ret_bool ?_, below_drewN hB k⟩
        have hi := inj a0.data.toList a2.data.toList a1.data.toList a3.data.toList K0.out K2.out
        rw [← ByteArray.toList_eq a0, ← ByteArray.toList_eq a2, ← ByteArray.toList_eq a1, ← ByteArray.toList_eq a3] at hi
        rw [HX.out, HY.out]
        rw [← ByteArray.toList_eq a0, ← ByteArray.toList_eq a2, ← ByteArray.toList_eq a1, ← ByteArray.toList_eq a3]
        rw [hi, e]
        simp
    · go_enter Try.func6, Try.ntmps6
      go_wp2_with fail
      refine (bytesR_yes _ _ _ _ _ h').mono ?_
      rintro e w' ⟨rfl, rfl⟩
      go_wp2_with fail
      refine (colon_no a0 _ w0 k0).mono ?_
      rintro e w' ⟨rfl, rfl⟩
      go_wp2_with fail
      refine (colon_yes a2 _ w2 k2).mono ?_
      rintro e w' ⟨rfl, rfl⟩
      go_wp2_with fail
      go_ret
      exact ⟨rfl, Below.refl _ _⟩
  · go_enter Try.func6, Try.ntmps6
    go_wp2_with fail
    refine (bytesR_yes _ _ _ _ _ h').mono ?_
    rintro e w' ⟨rfl, rfl⟩
    go_wp2_with fail
    refine (colon_yes a0 _ w0 k0).mono ?_
    rintro e w' ⟨rfl, rfl⟩
    go_wp2_with fail
    go_ret
    exact ⟨rfl, Below.refl _ _⟩

/-! ### THE ROW's STEP: WRITTEN OUT: LEAVE IT -/
set_option maxRecDepth 100000 in
theorem lifted (os : Os) (started : os.Started) (H : Type) (enc : TypeId × Value → H) :
    ReturnsInHanded {} Try.checked os 6 .any (Rows.fnResourceTextInjectiveForColonFreeTypesSpec.pre6 enc Try.prog Try.f6 Rows.fnResourceTextInjectiveForColonFreeTypesRow.domain false) (Rows.fnResourceTextInjectiveForColonFreeTypesSpec.post enc Try.prog Try.f6 false true false false) := by
  refine returnsInHanded_of_change (C := Try.checked) own started (by kernel_rfl) Try.func6
    (ChangeSpec.witness6 (enc := enc) (C := Try.checked) false ⟨#[], #[.string ByteArray.empty, .string ByteArray.empty, .string ByteArray.empty, .string ByteArray.empty], []⟩ 8 (by kernel_rfl) (by kernel_rfl) (by kernel_rfl) (by kernel_rfl)) ?_
  intro W base args ds gs before hval0 hW hcnd _
  have hval : ∀ (j : Nat) t v, Try.f6.params[j]? = some t → args[j]? = some v → Value.okWide Try.prog W .any base t v := hval0
  have hW' := hW
  obtain ⟨p, q, hA0, hV, rfl, hfz, hnd⟩ := hW
  have hA : DataW.TrodAll enc Try.prog W 0 (fun _ => true) true Try.f6.params.toList args.toList ds p := hA0
  rw [Try.params6] at hA hval
  obtain ⟨v0, vs0, d0, ds0, p0, q0, hargs, rfl, rfl, h0, r0⟩ := trodAll_cons hA
  obtain ⟨v1, vs1, d1, ds1, p1, q1, rfl, rfl, rfl, h1, r1⟩ := trodAll_cons r0
  obtain ⟨v2, vs2, d2, ds2, p2, q2, rfl, rfl, rfl, h2, r2⟩ := trodAll_cons r1
  obtain ⟨v3, vs3, d3, ds3, p3, q3, rfl, rfl, rfl, h3, r3⟩ := trodAll_cons r2
  obtain ⟨rfl, rfl, rfl⟩ := trodAll_nil r3
  obtain rfl : args = #[v0, v1, v2, v3] := by cases args; simp_all
  obtain ⟨rfl, rfl⟩ := trodVars_none hV
  obtain ⟨a0, rfl, rfl, rfl, w0⟩ := open_string Try.underlying9 (hval 0 9 v0 rfl rfl) h0
  obtain ⟨a1, rfl, rfl, rfl, w1⟩ := open_string Try.underlying9 (hval 1 9 v1 rfl rfl) h1
  obtain ⟨a2, rfl, rfl, rfl, w2⟩ := open_string Try.underlying9 (hval 2 9 v2 rfl rfl) h2
  obtain ⟨a3, rfl, rfl, rfl, w3⟩ := open_string Try.underlying9 (hval 3 9 v3 rfl rfl) h3
  clear hA0 hval0
  simp only [List.append_nil] at hW'
  refine (walk a0 a1 a2 a3 w0 w1 w2 w3 W).mono fun e W' ⟨he, hg⟩ => ?_
  subst he
  exact ⟨_, rfl, _, _, _, [], [], [], hW', trodAll_mk1 (shut_bool Try.underlying4 _), (trodAll_cons_mk (shut_string Try.underlying9 w0) (trodAll_cons_mk (shut_string Try.underlying9 w1) (trodAll_cons_mk (shut_string Try.underlying9 w2) (trodAll_cons_mk (shut_string Try.underlying9 w3) trodAll_mk0)))), rfl, hg.frame _, fun h => by cases h⟩

theorem over : Rows.fnResourceTextInjectiveForColonFreeTypesRow.holds Try.pinned (OpenSpec.ofChange Rows.fnResourceTextInjectiveForColonFreeTypesSpec) :=
  OpenClaim.holds_of_wide 6 Try.f6 rfl rfl rfl rfl rfl rfl rfl ⟨rfl, rfl, rfl, rfl, rfl⟩ rfl rfl rfl rfl rfl (by kernel_rfl) Try.func6 (by kernel_rfl)
    (of_decide_eq_true (by kernel_rfl)) (by unfold Func.isWrapper; first | (rw [if_pos (by decide +kernel)]; kernel_rfl) | (rw [if_neg (by decide +kernel)]; exact ⟨rfl, rfl⟩))
    (fun os started H enc _ => lifted os started H enc)

/-- ████ THE STATEMENT ████ -/
theorem proved : Rows.FnResourceTextInjectiveForColonFreeTypesSaid :=
  over
#print axioms proved
end Go.Proofs.Qxb6601488a.fnResourceTextInjectiveForColonFreeTypes
