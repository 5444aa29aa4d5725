/-
  THE WALKS OF allDigits (19), of its exported name (13) and of the bound on the length (12); plain laws on digits.
-/
import Derived.Test.Qxb6601403aRows
import Derived.WalkKit
import Derived.ProofKit
import Derived.WalkLawsBesides
import Derived.WalkSpells
namespace Go.Proofs.Qxb6601403a
open Go.ChangeShapes Go.WideShapes Go.ChangeAt Go.RowKit

def isDig (c : UInt8) : Bool := decide (48 ≤ c.toNat ∧ c.toNat ≤ 57)
/-- one or more digits, and nothing else -/
def allD (l : List UInt8) : Bool := !l.isEmpty && l.all isDig

theorem take_snoc (s : ByteArray) (k : Nat) (h : k < s.size) : s.data.toList.take (k + 1) = s.data.toList.take k ++ [s[k]] := by
  rw [List.take_succ_eq_append_getElem (by simpa using h)]; rfl

theorem ret_bool {a b : Bool} (h : a = b) : Ending.returned (.bool a) = .returned (.bool b) := by rw [h]

theorem dig_no (c : UInt8) (h : (c.toNat : Int) < 48 ∨ 57 < (c.toNat : Int)) : isDig c = false := by
  unfold isDig; rw [decide_eq_false_iff_not]; omega
theorem dig_yes (c : UInt8) (h : 48 ≤ (c.toNat : Int) ∧ (c.toNat : Int) ≤ 57) : isDig c = true := by
  unfold isDig; rw [decide_eq_true_iff]; omega

theorem bad_at (s : ByteArray) (k : Nat) (h : k < s.size) (hb : isDig s[k] = false) : allD s.data.toList = false := by
  unfold allD
  have : s.data.toList.all isDig = false := by
    rw [Bool.eq_false_iff]
    intro hall
    rw [List.all_eq_true] at hall
    have := hall s[k] (by
      have : s[k] = s.data.toList[k]'(by simpa using h) := rfl
      rw [this]; exact List.getElem_mem _)
    rw [hb] at this; cases this
  rw [this]; simp

theorem all_snoc (s : ByteArray) (k : Nat) (h : k < s.size) (ha : (s.data.toList.take k).all isDig = true) (hb : isDig s[k] = true) : (s.data.toList.take (k + 1)).all isDig = true := by
  rw [take_snoc s k h, List.all_append, ha]; simp [hb]

theorem empty_list (s : ByteArray) : s.toList.isEmpty = decide (s.size = 0) := by
  rw [ByteArray.toList_eq]
  cases h : s.data.toList with
  | nil => have : s.size = 0 := by rw [← ByteArray.size_data, ← Array.length_toList, h]; rfl
           simp [this]
  | cons c l => have : s.size ≠ 0 := by rw [← ByteArray.size_data, ← Array.length_toList, h]; simp
                simp [this]

set_option maxHeartbeats 400000 in
theorem dig_any (s : ByteArray) (w : World) (hs : s.size ≤ maxLen) :
    Calls Try.prog 19 #[.string s] w fun e w' => e = .returned (.bool (allD s.data.toList)) ∧ w = w' := by
  unfold maxLen at hs
  by_cases h0 : s.size = 0
  · have he : s.toList.isEmpty = true := by rw [empty_list]; simp [h0]
    have he2 : s.data.toList.isEmpty = true := by rw [← ByteArray.toList_eq]; exact he
    have HE : Hid _ := he2
    clear he2
    go_enter Try.func19, Try.ntmps19
    go_wp2
    go_ret
    exact ⟨ret_bool (by unfold allD; rw [HE.out]; rfl), rfl⟩
  · have he : s.toList.isEmpty = false := by rw [empty_list]; simp [h0]
    have he2 : s.data.toList.isEmpty = false := by rw [← ByteArray.toList_eq]; exact he
    have HE : Hid _ := he2
    clear he2
    go_enter Try.func19, Try.ntmps19
    go_wp2
    go_loop [3] (fun i => ∃ k : Nat, k ≤ s.size ∧ i = .int .i64 k ∧ (s.data.toList.take k).all isDig = true) (fun i => s.size - (intOf i).toNat)
    case atStart => exact ⟨0, Nat.zero_le _, rfl, rfl⟩
    case round =>
      obtain ⟨k, hk, rfl, hall⟩ := hrel
      have HA : Hid _ := hall
      clear hall
      by_cases hlt : k < s.size
      · have hsn := all_snoc s k hlt HA.out
        have hbad := bad_at s k hlt
        have HS : Hid _ := hsn
        have HB : Hid _ := hbad
        clear hsn hbad
        go_wp2
        · have h : (s[k].toNat : Int) < 48 ∨ 57 < (s[k].toNat : Int) := by assumption
          go_ret
          exact ⟨ret_bool (HB.out (dig_no _ h)).symm, rfl⟩
        · have h : 48 ≤ (s[k].toNat : Int) ∧ (s[k].toNat : Int) ≤ 57 := by assumption
          go_round
          case rel => exact ⟨k + 1, by omega, by go_num, HS.out (dig_yes _ h)⟩
          case measure => simp [intOf]; omega
        · have h : (s[k].toNat : Int) < 48 := by assumption
          go_ret
          exact ⟨ret_bool (HB.out (dig_no _ (.inl h))).symm, rfl⟩
      · go_wp2
        go_ret
        exact ⟨ret_bool (by have := HA.out; rw [List.take_of_length_le (by simp; omega)] at this; unfold allD; rw [this, HE.out]; rfl), rfl⟩

/-- its exported name -/
theorem zdig_any (s : ByteArray) (w : World) (hs : s.size ≤ maxLen) :
    Calls Try.prog 13 #[.string s] w fun e w' => e = .returned (.bool (allD s.data.toList)) ∧ w = w' := by
  go_enter Try.func13, Try.ntmps13
  go_wp2_with (go_at_call 19; refine (dig_any _ _ hs).mono ?_; rintro e w' ⟨rfl, rfl⟩)
  go_ret
  exact ⟨rfl, rfl⟩

theorem dbytes_small (s : ByteArray) (w : World) (h : s.size ≤ 1048576) :
    Calls Try.prog 12 #[.string s] w fun e w' => e = .returned (.bool true) ∧ w = w' := by
  go_enter Try.func12, Try.ntmps12
  go_wp2
  go_ret
  exact ⟨rfl, rfl⟩

theorem dbytes_great (s : ByteArray) (w : World) (hs : s.size ≤ maxLen) (h : 1048576 < s.size) :
    Calls Try.prog 12 #[.string s] w fun e w' => e = .returned (.bool false) ∧ w = w' := by
  unfold maxLen at hs
  go_enter Try.func12, Try.ntmps12
  go_wp2
  go_ret
  exact ⟨rfl, rfl⟩

/-! ### the count of digits -/
def nDig (l : List UInt8) : Int := (l.filter isDig).length
theorem nDig_le (l : List UInt8) : 0 ≤ nDig l ∧ nDig l ≤ l.length := by
  unfold nDig; exact ⟨by omega, by have := List.length_filter_le isDig l; omega⟩
theorem nDig_yes (s : ByteArray) (k : Nat) (h : k < s.size) (hb : isDig s[k] = true) : nDig (s.data.toList.take (k + 1)) = nDig (s.data.toList.take k) + 1 := by
  unfold nDig; rw [take_snoc s k h, List.filter_append]; simp [hb]
theorem nDig_no (s : ByteArray) (k : Nat) (h : k < s.size) (hb : isDig s[k] = false) : nDig (s.data.toList.take (k + 1)) = nDig (s.data.toList.take k) := by
  unfold nDig; rw [take_snoc s k h, List.filter_append]; simp [hb]
theorem nDig_all (l : List UInt8) : (nDig l == (l.length : Int)) = l.all isDig := by
  unfold nDig
  rw [Bool.eq_iff_iff, beq_iff_eq, List.all_eq_true]
  constructor
  · intro h
    have h' : (l.filter isDig).length = l.length := by omega
    exact List.length_filter_eq_length_iff.1 h'
  · intro h
    have := List.length_filter_eq_length_iff.2 h
    omega

theorem sub_yes (c : UInt8) (h : ((c.toNat : Int) - 48) % 256 < 10) : isDig c = true := by
  have := c.toNat_lt
  unfold isDig; rw [decide_eq_true_iff]; omega
theorem sub_no (c : UInt8) (h : 10 ≤ ((c.toNat : Int) - 48) % 256) : isDig c = false := by
  have := c.toNat_lt
  unfold isDig; rw [decide_eq_false_iff_not]; omega

theorem fin_some (s : ByteArray) (h : 0 < s.size) : (allD s.data.toList == (nDig s.data.toList == (s.size : Int))) = true := by
  have h1 := nDig_all s.data.toList
  rw [Array.length_toList, ByteArray.size_data] at h1
  have h2 : s.data.toList.isEmpty = false := by rw [← ByteArray.toList_eq, empty_list, decide_eq_false_iff_not]; omega
  rw [h1, beq_iff_eq]
  unfold allD
  rw [h2]; rfl

theorem fin_none (s : ByteArray) (h : ¬ 0 < s.size) : (!allD s.data.toList) = true := by
  have h2 : s.data.toList.isEmpty = true := by rw [← ByteArray.toList_eq, empty_list, decide_eq_true_iff]; omega
  unfold allD
  rw [h2]; rfl

end Go.Proofs.Qxb6601403a
