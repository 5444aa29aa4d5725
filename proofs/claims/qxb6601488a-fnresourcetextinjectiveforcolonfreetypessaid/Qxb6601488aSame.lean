/-
  THE WALKS OF hasColon (14) AND sameBytes (16); the rendering tells type and name apart.
-/
import Derived.Test.Qxb6601488aAppend
import Derived.Test.Qxb6601488aFits
namespace Go.Proofs.Qxb6601488a
open Go.ChangeShapes Go.WideShapes Go.ChangeAt Go.RowKit

/-! ### hasColon (14) -/
def colon (l : List UInt8) : Bool := l.any (· == 58)

theorem is58 {c : UInt8} (h : ((c.toNat : Int) == 58) = true) : c = 58 := byte_is (n := 58) h (by omega)
theorem not58 {c : UInt8} (h : ((c.toNat : Int) == 58) = false) : c ≠ 58 := by
  rintro rfl; simp at h

theorem take_one (s : ByteArray) (k : Nat) (h : k < s.size) : s.data.toList.take (k + 1) = s.data.toList.take k ++ [s[k]] := by
  rw [List.take_succ_eq_append_getElem (by simpa using h)]; rfl

theorem colon_at (s : ByteArray) (k : Nat) (h : k < s.size) (hb : s[k] = 58) : colon s.data.toList = true := by
  unfold colon
  rw [List.any_eq_true]
  exact ⟨s[k], by
    have : s[k] = s.data.toList[k]'(by simpa using h) := rfl
    rw [this]; exact List.getElem_mem _, by simp [hb]⟩

theorem colon_next (s : ByteArray) (k : Nat) (h : k < s.size) (ha : colon (s.data.toList.take k) = false) (hb : s[k] ≠ 58) : colon (s.data.toList.take (k + 1)) = false := by
  unfold colon at *
  rw [take_one s k h, List.any_append, ha]; simp [hb]

set_option maxHeartbeats 400000 in
theorem colon_any (s : ByteArray) (w : World) (hs : s.size ≤ maxLen) :
    Calls Try.prog 14 #[.string s] w fun e w' => e = .returned (.bool (colon s.data.toList)) ∧ w = w' := by
  unfold maxLen at hs
  go_enter Try.func14, Try.ntmps14
  go_wp2
  go_loop [3] (fun i => ∃ k : Nat, k ≤ s.size ∧ i = .int .i64 k ∧ Hid (colon (s.data.toList.take k) = false)) (fun i => s.size - (intOf i).toNat)
  case atStart => exact ⟨0, Nat.zero_le _, rfl, rfl⟩
  case round =>
    obtain ⟨k, hk, rfl, HA⟩ := hrel
    by_cases hlt : k < s.size
    · go_wp2
      · have h : ((s[k].toNat : Int) == 58) = true := by assumption
        go_ret
        exact ⟨ret_bool (colon_at s k hlt (is58 h)).symm, rfl⟩
      · have h : ((s[k].toNat : Int) == 58) = false := by assumption
        go_round
        case rel => exact ⟨k + 1, by omega, by go_num, colon_next s k hlt HA.out (not58 h)⟩
        case measure => simp [intOf]; omega
    · go_wp2
      go_ret
      exact ⟨ret_bool (by have := HA.out; rw [List.take_of_length_le (by simp; omega)] at this; exact this.symm), rfl⟩

/-! ### sameBytes (16) -/
theorem same_len_no (x y : List UInt8) (h : ¬ x.length = y.length) : (x == y) = false := by
  rw [Bool.eq_false_iff]; intro e
  have : x = y := by simpa using e
  exact h (by rw [this])

theorem same_at_no (x y : List UInt8) (k : Nat) (hx : k < x.length) (hy : k < y.length) (h : x[k] ≠ y[k]) : (x == y) = false := by
  rw [Bool.eq_false_iff]; intro e
  have : x = y := by simpa using e
  subst this; exact h rfl

theorem same_next (x y : List UInt8) (k : Nat) (hx : k < x.length) (hy : k < y.length) (ha : x.take k = y.take k) (h : x[k] = y[k]) : x.take (k + 1) = y.take (k + 1) := by
  rw [List.take_succ_eq_append_getElem hx, List.take_succ_eq_append_getElem hy, ha, h]

theorem same_len (x y : List UInt8) (a b : Option Addr) (c d : Nat) (w : World) (h : ¬ x.length = y.length) :
    Calls Try.prog 16 #[.slice a x.length c, .slice b y.length d] w fun e w' => e = .returned (.bool (x == y)) ∧ ∃ k, w' = w.drewN k := by
  have HN : Hid ((x == y) = false) := same_len_no x y h
  have hb : ((x.length : Int) == (y.length : Int)) = false := by simp; omega
  have hb2 : ((x.length : Int) != (y.length : Int)) = true := by simp; omega
  go_enter Try.func16, Try.ntmps16
  go_wp2
  go_ret
  exact ⟨ret_bool HN.out.symm, 0, rfl⟩

theorem same_nil (a b : Option Addr) (c d : Nat) (w : World) :
    Calls Try.prog 16 #[.slice a 0 c, .slice b 0 d] w fun e w' => e = .returned (.bool true) ∧ ∃ k, w' = w.drewN k := by
  go_enter Try.func16, Try.ntmps16
  go_wp2
  refine wp_loop_rounds 1 ?_
  rw [rounds_succ]
  go_wp2
  go_ret
  exact ⟨rfl, 0, rfl⟩

set_option maxHeartbeats 400000 in
theorem same_row (x y : List UInt8) (g h n c d : Nat) (w : World) (hx : x.length = n) (hy : y.length = n) (hn : n ≤ 200000)
    (cx : ∀ j (hj : j < x.length), w.cell? ⟨g, j, none⟩ = some (.int .u8 (x[j].toNat))) (cy : ∀ j (hj : j < y.length), w.cell? ⟨h, j, none⟩ = some (.int .u8 (y[j].toNat))) :
    Calls Try.prog 16 #[.slice (some ⟨g, 0, none⟩) n c, .slice (some ⟨h, 0, none⟩) n d] w fun e w' => e = .returned (.bool (x == y)) ∧ ∃ k, w' = w.drewN k := by
  have HX : Hid (x.length = n) := hx
  have HY : Hid (y.length = n) := hy
  have CX : Hid (∀ j (hj : j < x.length), w.cell? ⟨g, j, none⟩ = some (.int .u8 (x[j].toNat))) := cx
  have CY : Hid (∀ j (hj : j < y.length), w.cell? ⟨h, j, none⟩ = some (.int .u8 (y[j].toNat))) := cy
  clear hx hy cx cy
  go_enter Try.func16, Try.ntmps16
  go_wp2
  go_loopw [5] (fun i wr => ∃ k e : Nat, k ≤ n ∧ i = .int .i64 k ∧ Hid (x.take k = y.take k) ∧ wr = w.drewN e) (fun i _ => n - (intOf i).toNat)
  case atStart => exact ⟨0, 0, Nat.zero_le _, rfl, rfl, rfl⟩
  case round =>
    obtain ⟨k, dr, hk, rfl, HE, rfl⟩ := hrel
    by_cases hlt : k < n
    · have hkx : k < x.length := by rw [HX.out]; exact hlt
      have hky : k < y.length := by rw [HY.out]; exact hlt
      obtain ⟨p, hp⟩ : ∃ p, p = x[k] := ⟨_, rfl⟩
      obtain ⟨q, hq⟩ : ∃ q, q = y[k] := ⟨_, rfl⟩
      have c1 := CX.out k hkx
      have c2 := CY.out k hky
      rw [← hp] at c1
      rw [← hq] at c2
      have HP : Hid (p = x[k]) := hp
      have HQ : Hid (q = y[k]) := hq
      clear hp hq
      go_wp2
      go_quiet (fail)
      go_wp2
      · have h : ((p.toNat : Int) != (q.toNat : Int)) = true := by assumption
        go_ret
        refine ⟨ret_bool (same_at_no x y k hkx hky ?_).symm, dr + nq, by simp⟩
        rw [← HP.out, ← HQ.out]
        rintro rfl
        simp at h
      · have h : ((p.toNat : Int) != (q.toNat : Int)) = false := by assumption
        have hpq : p = q := same_byte (by simpa using h)
        go_roundw
        case rel => exact ⟨k + 1, _, by omega, by go_num, same_next x y k hkx hky HE.out (by rw [← HP.out, ← HQ.out, hpq]), rfl⟩
        case measure => simp [intOf]; omega
    · go_wp2
      go_ret
      refine ⟨ret_bool ?_, _, rfl⟩
      have := HE.out
      rw [List.take_of_length_le (by rw [HX.out]; omega), List.take_of_length_le (by rw [HY.out]; omega)] at this
      rw [this]; simp

theorem same_any (x y : List UInt8) (a b : Option Addr) (c d : Nat) (w : World) (hx : x.length ≤ 200000) (bx : Bytes w a x) (by' : Bytes w b y) :
    Calls Try.prog 16 #[.slice a x.length c, .slice b y.length d] w fun e w' => e = .returned (.bool (x == y)) ∧ ∃ k, w' = w.drewN k := by
  by_cases h : x.length = y.length
  · rcases bx with ⟨rfl, rfl⟩ | ⟨g, rfl, _, cx⟩
    · have hy : y = [] := List.eq_nil_of_length_eq_zero h.symm
      subst hy
      exact same_nil _ _ _ _ w
    · rcases by' with ⟨rfl, rfl⟩ | ⟨g', rfl, _, cy⟩
      · have hx : x = [] := List.eq_nil_of_length_eq_zero h
        subst hx
        exact same_nil _ _ _ _ w
      · have := same_row x y g g' x.length c d w rfl h.symm hx cx cy
        rw [← h]
        exact this
  · exact same_len x y a b c d w h

/-! ### the rendering tells type and name apart -/
theorem free_append (t : List UInt8) (h : colon t = false) (s n : List UInt8) (e : t = s ++ 58 :: n) : False := by
  subst e
  simp [colon] at h

theorem split_colon (t s n m : List UInt8) (ht : colon t = false) (hs : colon s = false) (e : t ++ 58 :: n = s ++ 58 :: m) : t = s ∧ n = m := by
  induction t generalizing s with
  | nil =>
    cases s with
    | nil => simp at e; exact ⟨rfl, e⟩
    | cons c s =>
      simp at e
      rw [← e.1] at hs
      simp [colon] at hs
  | cons b t ih =>
    cases s with
    | nil =>
      simp at e
      rw [e.1] at ht
      simp [colon] at ht
    | cons c s =>
      simp at e
      obtain ⟨rfl, e⟩ := e
      have := ih s (by simp [colon] at ht ⊢; exact ht.2) (by simp [colon] at hs ⊢; exact hs.2) e
      rw [this.1]; exact ⟨rfl, this.2⟩

theorem inj (t s n m : List UInt8) (ht : colon t = false) (hs : colon s = false) : (txt t n == txt s m) = (t == s && n == m) := by
  rw [Bool.eq_iff_iff, Bool.and_eq_true, beq_iff_eq, beq_iff_eq, beq_iff_eq]
  constructor
  · intro e
    unfold txt at e
    cases n with
    | nil =>
      cases m with
      | nil => simp at e; exact ⟨e, rfl⟩
      | cons d m => simp at e; exact (free_append t ht s _ e).elim
    | cons c n =>
      cases m with
      | nil => simp at e; exact (free_append s hs t _ e.symm).elim
      | cons d m =>
        simp at e
        exact split_colon t s _ _ ht hs e
  · rintro ⟨rfl, rfl⟩; rfl

theorem txt_len (t n : List UInt8) : (txt t n).length ≤ t.length + 1 + n.length := by
  unfold txt
  split
  · omega
  · simp; omega

end Go.Proofs.Qxb6601488a
