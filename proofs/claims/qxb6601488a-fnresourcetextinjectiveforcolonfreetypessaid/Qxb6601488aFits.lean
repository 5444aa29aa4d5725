/-
  THE WALK OF fits (18) AND OF ITS EXPORTED NAME (9): the pattern covers the name.
-/
import Derived.Test.Qxb6601488aRows
import Derived.Test.Qxb6601488aGlob
import Derived.WalkKit
import Derived.ProofKit
import Derived.WalkLawsBesides
import Derived.WalkSpells
import Derived.Deep.QuietTactic
import Derived.BigQuiet
namespace Go.Proofs.Qxb6601488a
open Go.ChangeShapes Go.WideShapes Go.ChangeAt Go.RowKit
open Glob (glob FInv Mis mu)

theorem ret_bool {a b : Bool} (h : a = b) : Ending.returned (.bool a) = .returned (.bool b) := by rw [h]
theorem len_list (s : ByteArray) : s.data.toList.length = s.size := by simp

theorem byte_is {c : UInt8} {n : Nat} (h : ((c.toNat : Int) == (n : Int)) = true) (hn : n < 256) : c = UInt8.ofNat n := by
  have := beq_iff_eq.1 h
  have : c.toNat = n := by omega
  apply UInt8.toNat_inj.1
  rw [this, UInt8.toNat_ofNat']; omega

theorem is42 {c : UInt8} (h : ((c.toNat : Int) == 42) = true) : c = 42 := byte_is (n := 42) h (by omega)
theorem not42 {c : UInt8} (h : ((c.toNat : Int) == 42) = false) : c ≠ 42 := by
  rintro rfl; simp at h
theorem same_byte {c d : UInt8} (h : ((c.toNat : Int) == (d.toNat : Int)) = true) : c = d := by
  apply UInt8.toNat_inj.1
  have := beq_iff_eq.1 h
  omega
theorem other_byte {c d : UInt8} (h : ((c.toNat : Int) == (d.toNat : Int)) = false) : c ≠ d := by
  rintro rfl; simp at h

set_option maxHeartbeats 1000000 in
theorem fits_long (P N : ByteArray) (w : World) (hP : P.size ≤ maxLen) (hN : N.size ≤ maxLen) (hne : (P.toList == [42]) = false) :
    Calls Try.prog 18 #[.string P, .string N] w fun e w' => e = .returned (.bool (glob P.data.toList N.data.toList)) ∧ ∃ k, w' = w.drewN k := by
  unfold maxLen at hP hN
  go_enter Try.func18, Try.ntmps18
  go_wp2
  go_loopw [5, 6, 7, 8] (fun p n st sn wr => ∃ (pk nk snk : Nat) (sv : Int) (d : Nat), p = .int .i64 pk ∧ n = .int .i64 nk ∧ st = .int .i64 sv ∧ sn = .int .i64 snk ∧ FInv P.data.toList N.data.toList pk nk sv snk ∧ wr = w.drewN d)
    (fun p _ _ sn _ => mu P.size N.size (intOf p).toNat (intOf sn).toNat)
  case atStart => exact ⟨0, 0, 0, -1, 0, rfl, rfl, rfl, rfl, FInv.start _ _, rfl⟩
  case round =>
    obtain ⟨pk, nk, snk, sv, d, rfl, rfl, rfl, rfl, hf, rfl⟩ := hrel
    have hb : pk ≤ P.size ∧ nk ≤ N.size ∧ snk ≤ nk := by
      obtain ⟨h1, h2, h3, _⟩ := hf
      rw [len_list] at h1 h2
      exact ⟨h1, h2, h3⟩
    have hsv : sv = -1 ∨ ∃ s : Nat, sv = s ∧ s < P.size := by
      have := hf.star_cases
      rw [len_list] at this
      exact this
    have hsb : -1 ≤ sv ∧ sv < P.size := by
      rcases hsv with h | ⟨s, h, h'⟩ <;> omega
    have HF : Hid (FInv P.data.toList N.data.toList pk nk sv snk) := hf
    have HS : Hid (sv = -1 ∨ ∃ s : Nat, sv = s ∧ s < P.size) := hsv
    clear hf hsv
    by_cases hn : nk < N.size
    · have hn' : nk < N.data.toList.length := by rw [len_list]; exact hn
      by_cases hp : pk < P.size
      · have hp' : pk < P.data.toList.length := by rw [len_list]; exact hp
        go_wp2
        · have h42 : ((P[pk].toNat : Int) == 42) = true := by assumption
          go_roundw
          case rel => exact ⟨pk + 1, nk, nk, pk, d, by go_num, rfl, rfl, rfl, FInv.star HF hp' (is42 h42), rfl⟩
          case measure => exact Glob.mu_on _ _ _ _ _ hp hb.2.2
        · have h42 : ((P[pk].toNat : Int) == 42) = false := by assumption
          go_quiet (fail)
          go_wp2
          · have he : ((P[pk].toNat : Int) == (N[nk].toNat : Int)) = true := by assumption
            go_roundw
            case rel => exact ⟨pk + 1, nk + 1, snk, sv, _, by go_num, by go_num, rfl, rfl, FInv.lit HF hp' hn' (not42 h42) (same_byte he), rfl⟩
            case measure => exact Glob.mu_on _ _ _ _ _ hp (Nat.le_refl _)
          · have he : ((P[pk].toNat : Int) == (N[nk].toNat : Int)) = false := by assumption
            have h0 : 0 ≤ sv := by assumption
            have hm := Glob.mis_ne _ _ pk nk hp' hn' (not42 h42) (other_byte he)
            obtain ⟨s, rfl, hs⟩ : ∃ s : Nat, sv = s ∧ s < P.size := by
              rcases HS.out with h | h
              · omega
              · exact h
            go_roundw
            case rel => exact ⟨s + 1, snk + 1, snk + 1, s, _, by go_num, by go_num, rfl, by go_num, FInv.back HF hn' hm, rfl⟩
            case measure => exact Glob.mu_back _ _ _ _ _ (by omega)
          · have he : ((P[pk].toNat : Int) == (N[nk].toNat : Int)) = false := by assumption
            have h0 : sv < 0 := by assumption
            have hm := Glob.mis_ne _ _ pk nk hp' hn' (not42 h42) (other_byte he)
            have hs : sv = -1 := by omega
            subst hs
            go_ret
            exact ⟨ret_bool (FInv.none HF hm).symm, _, rfl⟩
      · have hp' : P.data.toList.length ≤ pk := by rw [len_list]; omega
        have hm := Glob.mis_end _ _ pk nk hp' hn'
        have HM : Hid (Mis P.data.toList N.data.toList pk nk) := hm
        clear hm
        go_wp2
        go_quiet (fail)
        go_wp2
        · have h0 : 0 ≤ sv := by assumption
          obtain ⟨s, rfl, hs⟩ : ∃ s : Nat, sv = s ∧ s < P.size := by
            rcases HS.out with h | h
            · omega
            · exact h
          go_roundw
          case rel => exact ⟨s + 1, snk + 1, snk + 1, s, _, by go_num, by go_num, rfl, by go_num, FInv.back HF hn' HM, rfl⟩
          case measure => exact Glob.mu_back _ _ _ _ _ (by omega)
        · have h0 : sv < 0 := by assumption
          have hs : sv = -1 := by omega
          subst hs
          go_ret
          exact ⟨ret_bool (FInv.none HF HM).symm, _, rfl⟩
    · have hn' : N.data.toList.length ≤ nk := by rw [len_list]; omega
      have he := FInv.ended HF hn'
      have HE : Hid (glob P.data.toList N.data.toList = glob (P.data.toList.drop pk) []) := he
      clear he HF HS
      go_wp2
      go_loop [5] (fun p => ∃ pj : Nat, p = .int .i64 pj ∧ pj ≤ P.size ∧ Hid (glob P.data.toList N.data.toList = glob (P.data.toList.drop pj) [])) (fun p => P.size - (intOf p).toNat)
      case atStart => exact ⟨pk, rfl, hb.1, HE⟩
      case round =>
        obtain ⟨pj, rfl, hj, HJ⟩ := hrel
        by_cases hlt : pj < P.size
        · have hp' : pj < P.data.toList.length := by rw [len_list]; exact hlt
          go_wp2
          · have h42 : ((P[pj].toNat : Int) == 42) = true := by assumption
            go_round
            case rel => exact ⟨pj + 1, by go_num, by omega, HJ.out.trans (Glob.rest_star _ _ hp' (is42 h42))⟩
            case measure => simp [intOf]; omega
          · have h42 : ((P[pj].toNat : Int) == 42) = false := by assumption
            go_ret
            exact ⟨ret_bool (by rw [HJ.out, Glob.rest_lit _ _ hp' (not42 h42)]; simp; omega), _, rfl⟩
        · go_wp2
          go_ret
          exact ⟨ret_bool (by rw [HJ.out, Glob.rest_end _ _ (by rw [len_list]; omega)]; simp; omega), _, rfl⟩

theorem fits_star (P N : ByteArray) (w : World) (hne : (P.toList == [42]) = true) :
    Calls Try.prog 18 #[.string P, .string N] w fun e w' => e = .returned (.bool (glob P.data.toList N.data.toList)) ∧ ∃ k, w' = w.drewN k := by
  have hP : P.data.toList = [42] := by rw [← ByteArray.toList_eq]; simpa using hne
  have HG : Hid (true = glob P.data.toList N.data.toList) := (by rw [hP, Glob.glob_onlystar] : true = glob P.data.toList N.data.toList)
  clear hP
  go_enter Try.func18, Try.ntmps18
  go_wp2
  go_ret
  exact ⟨ret_bool HG.out, 0, rfl⟩

/-- fits (18): the pattern covers the name -/
theorem fits_any (P N : ByteArray) (w : World) (hP : P.size ≤ maxLen) (hN : N.size ≤ maxLen) :
    Calls Try.prog 18 #[.string P, .string N] w fun e w' => e = .returned (.bool (glob P.data.toList N.data.toList)) ∧ ∃ k, w' = w.drewN k := by
  cases h : (P.toList == [42])
  · exact fits_long P N w hP hN h
  · exact fits_star P N w h

/-- its exported name (9) -/
theorem zfits_any (P N : ByteArray) (w : World) (hP : P.size ≤ maxLen) (hN : N.size ≤ maxLen) :
    Calls Try.prog 9 #[.string P, .string N] w fun e w' => e = .returned (.bool (glob P.data.toList N.data.toList)) ∧ ∃ k, w' = w.drewN k := by
  go_enter Try.func9, Try.ntmps9
  go_wp2_with (go_at_call 18; refine (fits_any _ _ _ hP hN).mono ?_; rintro e w' ⟨rfl, k, rfl⟩)
  go_ret
  exact ⟨rfl, _, rfl⟩

end Go.Proofs.Qxb6601488a
