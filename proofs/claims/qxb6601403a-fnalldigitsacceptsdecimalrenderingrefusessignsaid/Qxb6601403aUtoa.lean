/-
  THE WALK OF zzUtoa (15): a uint64 becomes one to twenty digits.
-/
import Derived.Test.Qxb6601403aDig
import Derived.Laws.BytesArg
namespace Go.Proofs.Qxb6601403a
open Go.ChangeShapes Go.WideShapes Go.ChangeAt Go.RowKit

/-- the buffer's cells are the numbers zs; from place j on they are digits; nothing old has turned -/
structure UBuf (w wr : World) (j : Nat) (zs : List Int) : Prop where
  len : zs.length = 20
  cells : ∀ p, p < 20 → wr.cell? ⟨w.heap.size, p, none⟩ = some (.int .u8 (zs.getD p 0))
  digs : ∀ p, j ≤ p → p < 20 → 48 ≤ zs.getD p 0 ∧ zs.getD p 0 ≤ 57
  grown : Grown w wr

theorem frozen_new (w : World) (p : Nat) : w.frozen? ⟨w.heap.size, p, none⟩ = false := by
  simp [World.frozen?]

theorem UBuf.start (w : World) : UBuf w (w.alloc (.cells #[.int .u8 0, .int .u8 0, .int .u8 0, .int .u8 0, .int .u8 0, .int .u8 0, .int .u8 0, .int .u8 0, .int .u8 0, .int .u8 0, .int .u8 0, .int .u8 0, .int .u8 0, .int .u8 0, .int .u8 0, .int .u8 0, .int .u8 0, .int .u8 0, .int .u8 0, .int .u8 0] 34)) 20 (List.replicate 20 0) := by
  refine ⟨rfl, ?_, fun p h1 h2 => by omega, (Grown.refl w).alloc _ _⟩
  intro p hp
  have e : (#[.int .u8 0, .int .u8 0, .int .u8 0, .int .u8 0, .int .u8 0, .int .u8 0, .int .u8 0, .int .u8 0, .int .u8 0, .int .u8 0, .int .u8 0, .int .u8 0, .int .u8 0, .int .u8 0, .int .u8 0, .int .u8 0, .int .u8 0, .int .u8 0, .int .u8 0, .int .u8 0] : Array Value) = (List.replicate 20 (Value.int .u8 0)).toArray := rfl
  rw [e, World.cell?_alloc_new]
  rw [List.getElem?_toArray, List.getElem?_replicate, if_pos hp, List.getD_eq_getElem?_getD, List.getElem?_replicate, if_pos hp]
  rfl

theorem UBuf.store {w wr : World} {t : Nat} {zs : List Int} (h : UBuf w wr (t + 1) zs) (ht : t < 20) (d : Int) (hd : 48 ≤ d ∧ d ≤ 57) : UBuf w (wr.setCell ⟨w.heap.size, t, none⟩ (.int .u8 d)) t (zs.set t d) := by
  refine ⟨by simp [h.len], ?_, ?_, h.grown.setCell (Nat.le_refl _) _⟩
  · intro p hp
    by_cases e : p = t
    · subst e
      rw [World.cell?_setCell_same _ _ _ (h.cells p hp)]
      simp [h.len, hp]
    · rw [World.cell?_setCell_other _ _ _ _ (by intro e2; injection e2; omega), h.cells p hp]
      simp [show ¬ t = p by omega]
  · intro p h1 h2
    by_cases e : p = t
    · subst e; simp [h.len, h2]; exact hd
    · have := h.digs p (by omega) h2
      simpa [List.getElem?_set, show ¬ t = p by omega] using this

theorem UBuf.frozen {w wr : World} {t : Nat} {zs : List Int} (h : UBuf w wr t zs) (p : Nat) : wr.frozen? ⟨w.heap.size, p, none⟩ = false := by
  rw [h.grown.2.1]; exact frozen_new w p

theorem drop_dig (zs : List Int) (t : Nat) (ht : t < 20) (hl : zs.length = 20) (hd : ∀ p, t ≤ p → p < 20 → 48 ≤ zs.getD p 0 ∧ zs.getD p 0 ≤ 57) : allD (strOfNums (zs.drop t)).data.toList = true := by
  rw [strOfNums_data]
  unfold allD
  have h1 : ((zs.drop t).map fun n => UInt8.ofNat n.toNat).isEmpty = false := by
    rw [List.isEmpty_eq_false_iff_exists_mem]
    cases h : zs.drop t with
    | nil => have := congrArg List.length h; simp at this; omega
    | cons c l => exact ⟨_, List.mem_map.2 ⟨c, by simp, rfl⟩⟩
  rw [h1, Bool.not_false, Bool.true_and, List.all_eq_true]
  intro x hx
  obtain ⟨n, hn, rfl⟩ := List.mem_map.1 hx
  obtain ⟨i, hi, rfl⟩ := List.getElem_of_mem hn
  have hi' : t + i < 20 := by simp at hi; omega
  have := hd (t + i) (by omega) hi'
  rw [List.getD_eq_getElem?_getD, List.getElem?_eq_getElem (by omega), Option.getD_some] at this
  rw [List.getElem_drop]
  unfold isDig
  rw [decide_eq_true_iff, UInt8.toNat_ofNat']
  omega

theorem ret_s {a b : ByteArray} (h : a = b) : Ending.returned (.string a) = .returned (.string b) := by rw [h]

theorem len34 : Try.prog.arrayLen 34 = 20 := by kernel_rfl
theorem arr34 : Try.prog.underlying 34 = some (.array (Try.prog.arrayLen 34) (Try.prog.elem 34)) := by kernel_rfl
theorem elem34 : Try.prog.elem 34 = 5 := by kernel_rfl
theorem slice_buf (w : World) (t : Nat) (ht : t < 20) (W : World) : (Instr.sliceAt 34 (.pointer (some ⟨w.heap.size, 0, none⟩)) (some (.int .i64 (t : Int))) none none).run Try.prog W = .ok (.slice (some ⟨w.heap.size, t, none⟩) (20 - t) (20 - t)) W := by
  rw [run_sliceAt_array_l W 34 ⟨w.heap.size, 0, none⟩ arr34 .i64 (t : Int) (by omega) (by rw [len34]; omega), len34, elem34]
  have hne : ¬ (20 = t) := by omega
  go_simp

set_option maxHeartbeats 400000 in
theorem utoa_any (n : Nat) (w : World) (hn : n < 18446744073709551616) :
    Calls Try.prog 15 #[.int .u64 n] w fun e w' => ∃ s : ByteArray, e = .returned (.string s) ∧ allD s.data.toList = true ∧ s.size ≤ 20 ∧ Grown w w' := by
  have hconv : ∀ (wr : World) (t : Nat) (zs : List Int), UBuf w wr t zs → t < 20 → (convert 22 9 (.slice (some ⟨w.heap.size, t, none⟩) (20 - t) (20 - t))).run Try.prog wr = .ok (.string (strOfNums (zs.drop t))) wr := by
    intro wr t zs h ht
    refine run_convert_bytes_arg wr 22 5 Try.underlying22 Try.underlying5 w.heap.size t (20 - t) (20 - t) (zs.drop t) (by simp [h.len]) ?_ 9 Try.underlying9
    intro i hi
    rw [h.cells (t + i) (by omega)]
    simp
  go_enter Try.func15, Try.ntmps15
  go_wp2
  go_loopw [0, 4] (fun n i wr => ∃ (m t : Nat) (zs : List Int), n = .int .u64 m ∧ i = .int .i64 ((t : Int) + 1) ∧ t < 20 ∧ m < 10 ^ (t + 1) ∧ m < 18446744073709551616 ∧ UBuf w wr (t + 1) zs) (fun _ i _ => (intOf i).toNat)
  case atStart => exact ⟨n, 19, _, rfl, rfl, by omega, by omega, hn, UBuf.start w⟩
  case round =>
    obtain ⟨m, t, zs, rfl, rfl, ht, hm, hm2, hu⟩ := hrel
    have hc := hu.cells t ht
    have hf := hu.frozen t
    have hst := hu.store ht (48 + (m : Int) % 10) (by omega)
    have hcv := hconv _ t _ hst ht
    have hsl : ∀ W, (Instr.sliceAt 34 (.pointer (some ⟨w.heap.size, 0, none⟩)) (some (.int .i64 (t : Int))) none none).run Try.prog W = .ok (.slice (some ⟨w.heap.size, t, none⟩) (20 - t) (20 - t)) W := fun W => slice_buf w t ht W
    have HM : Hid _ := hm
    clear hm hconv
    go_wp2
    · go_ret
      exact ⟨_, rfl, drop_dig _ t ht hst.len hst.digs, by rw [strOfNums_size]; simp [hst.len], hst.grown⟩
    · have hne : ((m : Int) / 10 == 0) = false := by assumption
      have hne' : ¬ (m / 10 = 0) := by simp at hne; omega
      obtain ⟨t', rfl⟩ : ∃ t', t = t' + 1 := by
        cases t with
        | zero => exfalso; have := HM.out; simp at this; omega
        | succ t' => exact ⟨t', rfl⟩
      go_roundw
      case rel => exact ⟨m / 10, t', _, by go_num, by go_num, by omega, by have := HM.out; rw [Nat.pow_succ] at this; exact Nat.div_lt_of_lt_mul (by omega), by omega, hst⟩
      case measure => simp [intOf]; omega
end Go.Proofs.Qxb6601403a
