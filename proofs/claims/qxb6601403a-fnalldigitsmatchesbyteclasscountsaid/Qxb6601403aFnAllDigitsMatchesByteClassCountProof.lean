/-
  THE PROOF OF 'Rows.FnAllDigitsMatchesByteClassCountSaid': the frame is the seat's given shell; the walk is mine.
-/
import Derived.Test.Qxb6601403aRows
import Derived.WalkKit
import Derived.ProofKit
import Derived.OpenShut
import Derived.ShutString
import Derived.Test.Qxb6601403aDig
namespace Go.Proofs.Qxb6601403a.fnAllDigitsMatchesByteClassCount
open Go.ChangeShapes Go.WideShapes Go.ChangeAt Go.RowKit
open Go.ChangeMaps (open_string shut_string)
set_option linter.unusedVariables false      -- a walk need not use every 'w<i>' (that an integer argument fits its kind)

theorem own : ownKnob Try.prog.godebug = none := by kernel_rfl

set_option maxHeartbeats 400000 in
theorem walk (a0 : ByteArray) (w0 : a0.size ≤ maxLen) (w : World) :
    Calls Try.prog 4 #[.string a0] w fun e w' => e = .returned (.bool true) ∧ Grown w w' := by
  have hs := w0
  unfold maxLen at hs
  by_cases hg : 1048576 < a0.size
  · go_enter Try.func4, Try.ntmps4
    go_wp2_with (go_at_call 12; refine (dbytes_great _ _ w0 hg).mono ?_; rintro e w' ⟨rfl, rfl⟩)
    go_ret
    exact ⟨rfl, Grown.refl _⟩
  · have hle : a0.size ≤ 1048576 := by omega
    go_enter Try.func4, Try.ntmps4
    go_wp2_with (go_at_call 12; refine (dbytes_small _ _ hle).mono ?_; rintro e w' ⟨rfl, rfl⟩)
    go_loop [3, 4] (fun n i => ∃ k : Nat, k ≤ a0.size ∧ i = .int .i64 k ∧ n = .int .i64 (nDig (a0.data.toList.take k))) (fun _ i => a0.size - (intOf i).toNat)
    case atStart => exact ⟨0, Nat.zero_le _, rfl, rfl⟩
    case round =>
      obtain ⟨k, hk, rfl, rfl⟩ := hrel
      have hd := nDig_le (a0.data.toList.take k)
      have hl : (a0.data.toList.take k).length ≤ k := List.length_take_le _ _
      by_cases hlt : k < a0.size
      · have hy := nDig_yes a0 k hlt
        have hn := nDig_no a0 k hlt
        have HY : Hid _ := hy
        have HN : Hid _ := hn
        clear hy hn
        go_wp2
        · have h : ((a0[k].toNat : Int) - 48) % 256 < 10 := by assumption
          go_round
          case rel => exact ⟨k + 1, by omega, by go_num, by rw [HY.out (sub_yes _ h)]⟩
          case measure => simp [intOf]; omega
        · have h : 10 ≤ ((a0[k].toNat : Int) - 48) % 256 := by assumption
          go_round
          case rel => exact ⟨k + 1, by omega, by go_num, by rw [HN.out (sub_no _ h)]⟩
          case measure => simp [intOf]; omega
      · have hend : nDig (a0.data.toList.take k) = nDig a0.data.toList := by rw [List.take_of_length_le (by simp; omega)]
        have HD : Hid _ := hend
        clear hend
        by_cases h0 : 0 < a0.size
        · go_wp2_with (go_at_call 13; refine (zdig_any _ _ w0).mono ?_; rintro e w' ⟨rfl, rfl⟩)
          go_ret
          refine ⟨ret_bool (by rw [HD.out]; exact fin_some a0 h0), Grown.refl _⟩
        · go_wp2_with (go_at_call 13; refine (zdig_any _ _ w0).mono ?_; rintro e w' ⟨rfl, rfl⟩)
          go_ret
          refine ⟨ret_bool (fin_none a0 h0), Grown.refl _⟩

/-! ### THE ROW's STEP: WRITTEN OUT: LEAVE IT -/
set_option maxRecDepth 100000 in
theorem lifted (os : Os) (started : os.Started) (H : Type) (enc : TypeId × Value → H) :
    ReturnsInHanded {} Try.checked os 4 .any (Rows.fnAllDigitsMatchesByteClassCountSpec.pre6 enc Try.prog Try.f4 Rows.fnAllDigitsMatchesByteClassCountRow.domain false) (Rows.fnAllDigitsMatchesByteClassCountSpec.post enc Try.prog Try.f4 false true false false) := by
  refine returnsInHanded_of_change (C := Try.checked) own started (by kernel_rfl) Try.func4
    (ChangeSpec.witness6 (enc := enc) (C := Try.checked) false ⟨#[], #[.string ByteArray.empty], []⟩ 8 (by kernel_rfl) (by kernel_rfl) (by kernel_rfl) (by kernel_rfl)) ?_
  intro W base args ds gs before hval0 hW hcnd _
  have hval : ∀ (j : Nat) t v, Try.f4.params[j]? = some t → args[j]? = some v → Value.okWide Try.prog W .any base t v := hval0
  have hW' := hW
  obtain ⟨p, q, hA0, hV, rfl, hfz, hnd⟩ := hW
  have hA : DataW.TrodAll enc Try.prog W 0 (fun _ => true) true Try.f4.params.toList args.toList ds p := hA0
  rw [Try.params4] at hA hval
  obtain ⟨v0, vs0, d0, ds0, p0, q0, hargs, rfl, rfl, h0, r0⟩ := trodAll_cons hA
  obtain ⟨rfl, rfl, rfl⟩ := trodAll_nil r0
  obtain rfl : args = #[v0] := by cases args; simp_all
  obtain ⟨rfl, rfl⟩ := trodVars_none hV
  obtain ⟨a0, rfl, rfl, rfl, w0⟩ := open_string Try.underlying9 (hval 0 9 v0 rfl rfl) h0
  clear hA0 hval0
  simp only [List.append_nil] at hW'
  refine (walk a0 w0 W).mono fun e W' ⟨he, hg⟩ => ?_
  subst he
  exact ⟨_, rfl, post_of_same (pa := []) (pv := []) hW' (fun _ _ _ => (trodAll_cons_mk (shut_bool Try.underlying4 _) trodAll_mk0)) (fun sp _ => (trodAll_cons_mk (shut_string Try.underlying9 w0) trodAll_mk0)) (fun _ _ => rfl) rfl
    (hg.frame _) hg.2.1 (ok_one (by kernel_rfl) rfl (okWide_bool_mk Try.underlying4 _))⟩

theorem over : Rows.fnAllDigitsMatchesByteClassCountRow.holds Try.pinned (OpenSpec.ofChange Rows.fnAllDigitsMatchesByteClassCountSpec) :=
  OpenClaim.holds_of_wide 4 Try.f4 rfl rfl rfl rfl rfl rfl rfl ⟨rfl, rfl, rfl, rfl, rfl⟩ rfl rfl rfl rfl rfl (by kernel_rfl) Try.func4 (by kernel_rfl)
    (of_decide_eq_true (by kernel_rfl)) (by unfold Func.isWrapper; first | (rw [if_pos (by decide +kernel)]; kernel_rfl) | (rw [if_neg (by decide +kernel)]; exact ⟨rfl, rfl⟩))
    (fun os started H enc _ => lifted os started H enc)

/-- ████ THE STATEMENT ████ -/
theorem proved : Rows.FnAllDigitsMatchesByteClassCountSaid :=
  over
#print axioms proved
end Go.Proofs.Qxb6601403a.fnAllDigitsMatchesByteClassCount
