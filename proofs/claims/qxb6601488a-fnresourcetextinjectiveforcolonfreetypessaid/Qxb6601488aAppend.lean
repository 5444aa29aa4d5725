/-
  THE WALK OF appendTo (19) ONTO nil AND OF ITS EXPORTED NAME (15): the bytes of the rendering lie in new memory.
-/
import Derived.Test.Qxb6601488aRows
import Derived.WalkKit
import Derived.ProofKit
import Derived.WalkLawsBesides
import Derived.WalkSpells
import Derived.Lib.AppendStr
import Derived.Laws.BytesArg
namespace Go.Proofs.Qxb6601488a
open Go.ChangeShapes Go.WideShapes Go.ChangeAt Go.RowKit

theorem info5 : (Try.prog.info? 5).map (fun i => (i.zero, i.size, i.bytes)) = some (some (.int .u8 0), 1, 1) := by kernel_rfl

/-- a text's bytes as cells -/
def cellsOf (l : List UInt8) : List Value := l.map fun b => Value.int .u8 b.toNat

/-- the rendering of a resource -/
def txt (t n : List UInt8) : List UInt8 := if n.isEmpty then t else t ++ 58 :: n

theorem grown_cell {w w' : World} {row : Option Nat} {B o : Nat} {v : Value} (h : w.grownBy w' row) (hc : w.cell? ⟨B, o, none⟩ = some v) (hr : some B ≠ row) : w'.cell? ⟨B, o, none⟩ = some v := by
  rw [World.cell?_of_block (w := w) (a := ⟨B, o, none⟩) (h.block B (World.block_lt_of_cell? _ _ hc) hr)]
  exact hc

theorem owned_ne {w : World} {B e n : Nat} {v : Value} {xs : List Value} (h : w.ownsRow (B + 1) e 1 v n xs) : some B ≠ v.ownBlock := by
  obtain ⟨_, h2⟩ := h
  rcases h2 with ⟨rfl, _⟩ | ⟨g, cap, cur, rfl, hg, _⟩
  · simp [Value.ownBlock]
  · simp [Value.ownBlock]; omega

theorem owned_ge {w : World} {B e n : Nat} {v : Value} {xs : List Value} (h : w.ownsRow (B + 1) e 1 v n xs) : ∀ k, v.ownBlock = some k → B ≤ k := by
  intro k hk
  obtain ⟨_, h2⟩ := h
  rcases h2 with ⟨rfl, _⟩ | ⟨g, cap, cur, rfl, hg, _⟩
  · simp [Value.ownBlock] at hk
  · simp [Value.ownBlock] at hk; omega

theorem old_cell {w : World} {B o : Nat} {v : Value} (h : w.cell? ⟨B, o, none⟩ = some v) (x : Obj) : (w.alloc x).cell? ⟨B, o, none⟩ = some v := by
  rw [World.cell?_alloc_lt _ _ _ (World.block_lt_of_cell? _ _ h)]; exact h

set_option maxHeartbeats 400000 in
theorem append_bare (t n : ByteArray) (w : World) (ht : t.size ≤ 65536) (hn : n.toList.isEmpty = true) :
    Calls Try.prog 19 #[.agg #[.string t, .string n], .slice none 0 0] w fun e w' => ∃ v, e = .returned v ∧ w'.ownsRow (w.heap.size + 1) 5 1 v t.size (Lib.strCells t) ∧ Below w.heap.size w w' := by
  obtain ⟨i0, hi, hz0, hz1, hz2⟩ := info_parts info5
  go_enter Try.func19, Try.ntmps19
  go_wp2_with (at_builtin; refine Lib.wpList_append_own_string _ rfl (.tmp 5) (.tmp 7) 26 9 rfl (w.heap.size + 1) 5 i0 Try.underlying26 Try.underlying9 hi hz0 hz1 hz2 (.slice none 0 0) 0 [] rfl (World.ownsRow_nil _ _ _ _) t rfl (by unfold maxLen; omega) (by omega) (by simp) ?_; intro v1 w1 hown1 hgrow1 _; have c1 := grown_cell (B := w.heap.size) (o := 1) (v := .string n) hgrow1 (by simp) (by simp [Value.ownBlock]))
  have hB : Below w.heap.size w w1 := ((Below.refl _ _).alloc (Nat.le_refl _) _).grown hgrow1 (by simp) (fun k hk => by simp [Value.ownBlock] at hk)
  go_ret
  exact ⟨v1, rfl, by simpa using hown1, hB⟩

set_option maxHeartbeats 400000 in
theorem append_named (t n : ByteArray) (w : World) (ht : t.size ≤ 65536) (hn : n.size ≤ 65536) (hne : n.toList.isEmpty = false) :
    Calls Try.prog 19 #[.agg #[.string t, .string n], .slice none 0 0] w fun e w' => ∃ v, e = .returned v ∧ w'.ownsRow (w.heap.size + 1) 5 1 v (t.size + 1 + n.size) (Lib.strCells t ++ [Value.int .u8 58] ++ Lib.strCells n) ∧ Below w.heap.size w w' := by
  obtain ⟨i0, hi, hz0, hz1, hz2⟩ := info_parts info5
  go_enter Try.func19, Try.ntmps19
  go_wp2_with (first
    | (at_builtin; refine Lib.wpList_append_own_string _ rfl (.tmp 5) (.tmp 7) 26 9 rfl (w.heap.size + 1) 5 i0 Try.underlying26 Try.underlying9 hi hz0 hz1 hz2 (.slice none 0 0) 0 [] rfl (World.ownsRow_nil _ _ _ _) t rfl (by unfold maxLen; omega) (by omega) (by simp) ?_; intro v1 w1 hown1 hgrow1 _; have c1 := grown_cell (B := w.heap.size) (o := 1) (v := .string n) hgrow1 (by simp) (by simp [Value.ownBlock]); have hB1 : Below w.heap.size w w1 := ((Below.refl _ _).alloc (Nat.le_refl _) _).grown hgrow1 (by simp) (fun k hk => by simp [Value.ownBlock] at hk); have hz1' : w.heap.size + 1 ≤ w1.heap.size := by have := hgrow1.size; simpa using this)
    | (at_builtin; refine wpList_append_own _ rfl (.tmp 12) (.tmp 13) 26 rfl (w.heap.size + 1) 5 i0 (.int .u8 0) 1 1 Try.underlying26 hi hz0 hz1 hz2 rfl (by decide) v1 (0 + t.size) ([] ++ Lib.strCells t) rfl (hown1.alloc _) ⟨w1.heap.size, 0, none⟩ 1 1 [.int .u8 58] rfl rfl (cell_one_new _ _ _) (by simp [Value.oneCell']) (by unfold maxLen; omega) (by omega) (by simp; omega) ?_; intro v2 w2 hown2 hgrow2 _; have c2 := grown_cell (B := w.heap.size) (o := 1) (v := .string n) hgrow2 (old_cell c1 _) (owned_ne hown1); have hB2 : Below w.heap.size w w2 := (hB1.alloc (by omega) _).grown hgrow2 (by simp; omega) (owned_ge hown1); have hz2' : w.heap.size + 1 ≤ w2.heap.size := by have := hgrow2.size; simp at this; omega)
    | (at_builtin; refine Lib.wpList_append_own_string _ rfl (.tmp 15) (.tmp 17) 26 9 rfl (w.heap.size + 1) 5 i0 Try.underlying26 Try.underlying9 hi hz0 hz1 hz2 v2 (0 + t.size + 1) ([] ++ Lib.strCells t ++ [.int .u8 58]) rfl hown2 n rfl (by unfold maxLen; omega) (by omega) (by omega) ?_; intro v3 w3 hown3 hgrow3 _; have hB3 : Below w.heap.size w w3 := hB2.grown hgrow3 (by omega) (owned_ge hown2)))
  go_ret
  exact ⟨v3, rfl, by simpa using hown3, hB3⟩

/-- the slice's address, and the bytes that lie there -/
def Bytes (w : World) (ao : Option Addr) (l : List UInt8) : Prop :=
  (ao = none ∧ l = []) ∨ ∃ g, ao = some ⟨g, 0, none⟩ ∧ g < w.heap.size ∧ ∀ j (h : j < l.length), w.cell? ⟨g, j, none⟩ = some (.int .u8 (l[j].toNat))

theorem Bytes.below {w w' : World} {ao : Option Addr} {l : List UInt8} (h : Bytes w ao l) (hb : Below w.heap.size w w') : Bytes w' ao l := by
  rcases h with h | ⟨g, h1, h2, h3⟩
  · exact .inl h
  · exact .inr ⟨g, h1, Nat.lt_of_lt_of_le h2 hb.size, fun j hj => (hb.cell (p := ⟨g, j, none⟩) h2).trans (h3 j hj)⟩

theorem own_bytes {w : World} {base n : Nat} {v : Value} {l : List UInt8} (h : w.ownsRow base 5 1 v n (cellsOf l)) : ∃ ao cap, v = .slice ao l.length cap ∧ l.length = n ∧ Bytes w ao l := by
  obtain ⟨h1, h2⟩ := h
  have hl : l.length = n := by simpa [cellsOf] using h1
  rcases h2 with ⟨rfl, h0⟩ | ⟨g, cap, cur, rfl, hg, hh, h3, h4, h5, h6⟩
  · refine ⟨none, 0, by rw [hl, h0], hl, .inl ⟨rfl, ?_⟩⟩
    exact List.eq_nil_of_length_eq_zero (by omega)
  · refine ⟨_, cap, by rw [hl], hl, .inr ⟨g, rfl, ?_, ?_⟩⟩
    · rcases Nat.lt_or_ge g w.heap.size with h | h
      · exact h
      · rw [Array.getElem?_eq_none h] at hh; cases hh
    · intro j hj
      have e : cur[j]? = some (Value.int .u8 (l[j].toNat)) := by
        have : (cur.toList.take (n * 1))[j]? = (cellsOf l)[j]? := by rw [h6]
        rw [List.getElem?_take, if_pos (by omega)] at this
        simp [cellsOf, hj] at this
        simpa using this
      simp [World.cell?, hh, e]

theorem cells_str (t : ByteArray) : Lib.strCells t = cellsOf t.data.toList := rfl
theorem cells_append (a b : List UInt8) : cellsOf a ++ cellsOf b = cellsOf (a ++ b) := by simp [cellsOf]

theorem empty_list (s : ByteArray) : s.toList.isEmpty = s.data.toList.isEmpty := by rw [ByteArray.toList_eq]

/-- appendTo (19), onto nil -/
theorem append_any (t n : ByteArray) (w : World) (ht : t.size ≤ 65536) (hn : n.size ≤ 65536) :
    Calls Try.prog 19 #[.agg #[.string t, .string n], .slice none 0 0] w fun e w' => ∃ l ao cap, e = .returned (.slice ao (List.length l) cap) ∧ Hid (l = txt t.data.toList n.data.toList) ∧ Bytes w' ao l ∧ Below w.heap.size w w' := by
  cases h : n.toList.isEmpty
  · refine (append_named t n w ht hn h).mono ?_
    rintro e w' ⟨v, rfl, hown, hb⟩
    have e1 : Lib.strCells t ++ [Value.int .u8 58] ++ Lib.strCells n = cellsOf (txt t.data.toList n.data.toList) := by
      rw [empty_list] at h
      unfold txt
      rw [h]
      simp [cells_str, cellsOf]
    rw [e1] at hown
    obtain ⟨ao, cap, rfl, _, hB⟩ := own_bytes hown
    exact ⟨_, ao, cap, rfl, rfl, hB, hb⟩
  · refine (append_bare t n w ht h).mono ?_
    rintro e w' ⟨v, rfl, hown, hb⟩
    have e1 : Lib.strCells t = cellsOf (txt t.data.toList n.data.toList) := by
      rw [empty_list] at h
      unfold txt
      rw [h]
      simp [cells_str]
    rw [e1] at hown
    obtain ⟨ao, cap, rfl, _, hB⟩ := own_bytes hown
    exact ⟨_, ao, cap, rfl, rfl, hB, hb⟩

/-- its exported name (15) -/
theorem zappend_any (t n : ByteArray) (w : World) (ht : t.size ≤ 65536) (hn : n.size ≤ 65536) :
    Calls Try.prog 15 #[.string t, .string n, .slice none 0 0] w fun e w' => ∃ l ao cap, e = .returned (.slice ao (List.length l) cap) ∧ Hid (l = txt t.data.toList n.data.toList) ∧ Bytes w' ao l ∧ Below w.heap.size w w' := by
  go_enter Try.func15, Try.ntmps15
  go_wp2_with (go_at_call 19; refine (append_any t n _ ht hn).mono ?_; rintro e w' ⟨l, ao, cap, rfl, HL, hB, hb⟩)
  go_ret
  exact ⟨l, ao, cap, rfl, HL, hB, hb⟩

/-- 'string(text)' -/
theorem conv_bytes {w : World} {ao : Option Addr} {l : List UInt8} (h : Bytes w ao l) (cap : Nat) : (convert 26 9 (.slice ao l.length cap)).run Try.prog w = .ok (.string ⟨l.toArray⟩) w := by
  rcases h with ⟨rfl, rfl⟩ | ⟨g, rfl, _, hc⟩
  · exact run_convert_bytes_nil w 26 5 Try.underlying26 Try.underlying5 _ _ 9 Try.underlying9
  · have e := run_convert_bytes_arg (P := Try.prog) w 26 5 Try.underlying26 Try.underlying5 g 0 l.length cap (l.map fun b => (b.toNat : Int)) (by simp) (by
      intro i hi
      rw [Nat.zero_add, hc i hi]
      simp [hi]) 9 Try.underlying9
    rw [e]
    have : strOfNums (l.map fun b => (b.toNat : Int)) = ⟨l.toArray⟩ := by
      unfold strOfNums
      congr 2
      rw [List.map_map]
      conv => rhs; rw [← List.map_id l]
      apply List.map_congr_left
      intro b _
      simp
    rw [this]

end Go.Proofs.Qxb6601488a
