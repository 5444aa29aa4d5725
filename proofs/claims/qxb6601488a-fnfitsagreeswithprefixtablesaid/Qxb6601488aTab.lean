/-
  THE TABLE OVER PREFIXES: two rows of bools in memory, and what their cells are worth. Plain laws, no walk.
-/
import Derived.Test.Qxb6601488aRows
import Derived.Test.Qxb6601488aGlob
import Derived.WalkKit
import Derived.ProofKit
import Derived.WalkLawsBesides
import Derived.WalkSpells
namespace Go.Proofs.Qxb6601488a.Tab
open Go.ChangeShapes Go.WideShapes Go.ChangeAt Go.RowKit
open Glob (glob)

theorem heap_set (w : World) (g j : Nat) (c : Array Value) (e : TypeId) (f : Nat × Nat) (v : Value) (h : w.heap[g]? = some (.cells c e f)) :
    (w.setCell ⟨g, j, none⟩ v).heap[g]? = some (.cells (c.setIfInBounds j v) e f) := by
  simp only [World.setCell, Array.getElem?_modify, if_true, h]
  simp

/-- a row of bools in a block -/
def Row (w : World) (g : Nat) (bs : List Bool) : Prop := w.heap[g]? = some (.cells (bs.map Value.bool).toArray 4 (0, 0))

theorem Row.cell {w : World} {g : Nat} {bs : List Bool} (h : Row w g bs) (j : Nat) (hj : j < bs.length) : w.cell? ⟨g, j, none⟩ = some (.bool (bs.getD j false)) := by
  unfold Row at h
  simp [World.cell?, h, hj]

theorem Row.frozen {w : World} {g : Nat} {bs : List Bool} (h : Row w g bs) (j : Nat) : w.frozen? ⟨g, j, none⟩ = false := by
  unfold Row at h
  simp [World.frozen?, h]

theorem Row.store {w : World} {g : Nat} {bs : List Bool} (h : Row w g bs) (j : Nat) (b : Bool) : Row (w.setCell ⟨g, j, none⟩ (.bool b)) g (bs.set j b) := by
  unfold Row at h ⊢
  rw [heap_set w g j _ _ _ _ h]
  simp [List.map_set]

theorem Row.other {w : World} {g k : Nat} {bs : List Bool} (h : Row w g bs) (hk : g ≠ k) (j : Nat) (v : Value) : Row (w.setCell ⟨k, j, none⟩ v) g bs := by
  unfold Row at h ⊢
  rw [Below.heap_setCell _ _ _ _ (by simpa using hk)]
  exact h

theorem made {w : World} {base g n : Nat} (h : w.ownsRow base 4 1 (.slice (some ⟨g, 0, none⟩) n n) n (madeCells (Value.bool false).cells (n * 1)).toList) : Row w g (List.replicate n false) := by
  obtain ⟨_, h2⟩ := h
  rcases h2 with ⟨h2, _⟩ | ⟨g', cap, cur, hv, _, hh, h3, h4, h5, h6⟩
  · simp at h2
  · simp at hv
    obtain ⟨rfl, rfl⟩ := hv
    unfold Row
    rw [hh]
    have e : cur.toList = List.replicate n (Value.bool false) := by
      rw [List.take_of_length_le (by simp; omega)] at h6
      rw [h6]
      unfold madeCells
      simp [Value.cells]
      apply List.ext_getElem
      · simp
      · intro i h1 h2; simp [Nat.mod_one]
    have e2 : cur = (List.replicate n (Value.bool false)).toArray := by rw [← e]
    rw [e2]; simp

/-- both rows, each of m + 1 bools, in blocks of the call's own -/
structure Two (w wr : World) (m bc bn : Nat) (cs ns : List Bool) : Prop where
  cl : cs.length = m + 1
  nl : ns.length = m + 1
  c : Row wr bc cs
  n : Row wr bn ns
  ne : bc ≠ bn
  bcB : w.heap.size ≤ bc
  bnB : w.heap.size ≤ bn
  below : Below w.heap.size w wr

theorem Two.swap {w wr : World} {m bc bn : Nat} {cs ns : List Bool} (h : Two w wr m bc bn cs ns) : Two w wr m bn bc ns cs :=
  ⟨h.nl, h.cl, h.n, h.c, h.ne.symm, h.bnB, h.bcB, h.below⟩

theorem Two.setC {w wr : World} {m bc bn : Nat} {cs ns : List Bool} (h : Two w wr m bc bn cs ns) (j : Nat) (b : Bool) : Two w (wr.setCell ⟨bc, j, none⟩ (.bool b)) m bc bn (cs.set j b) ns :=
  ⟨by simp [h.cl], h.nl, h.c.store j b, h.n.other h.ne.symm j _, h.ne, h.bcB, h.bnB, h.below.setCell (by exact h.bcB) _⟩

theorem Two.setN {w wr : World} {m bc bn : Nat} {cs ns : List Bool} (h : Two w wr m bc bn cs ns) (j : Nat) (b : Bool) : Two w (wr.setCell ⟨bn, j, none⟩ (.bool b)) m bc bn cs (ns.set j b) :=
  (h.swap.setC j b).swap

/-- the first t + 1 cells of a row are the table's -/
def Upto (P N : List UInt8) (bs : List Bool) (t : Nat) : Prop := ∀ i, i ≤ t → bs.getD i false = glob (P.take i) N

theorem Upto.zero_nil (P : List UInt8) (bs : List Bool) (h : 0 < bs.length) : Upto P [] (bs.set 0 true) 0 := by
  intro i hi
  obtain rfl : i = 0 := by omega
  simp [h]; rfl

theorem Upto.zero_cons (P N : List UInt8) (d : UInt8) (bs : List Bool) : Upto P (N ++ [d]) (bs.set 0 false) 0 := by
  intro i hi
  obtain rfl : i = 0 := by omega
  rw [List.take_zero, Glob.tab_zero_cons]
  cases bs <;> simp

theorem Upto.next {P N : List UInt8} {bs : List Bool} {t : Nat} (h : Upto P N bs t) (hl : t + 1 < bs.length) (b : Bool) (hb : b = glob (P.take (t + 1)) N) : Upto P N (bs.set (t + 1) b) (t + 1) := by
  intro i hi
  by_cases e : i = t + 1
  · subst e; simp [hl, hb]
  · have := h i (by omega)
    simpa [List.getElem?_set, show ¬ t + 1 = i by omega] using this

theorem take_byte (P : List UInt8) (t : Nat) (h : t < P.length) : P.take (t + 1) = P.take t ++ [P[t]] := List.take_succ_eq_append_getElem h

theorem init_star {P : List UInt8} {bs : List Bool} {t : Nat} (h : Upto P [] bs t) (ht : t < P.length) (hc : P[t] = 42) : bs.getD t false = glob (P.take (t + 1)) [] := by
  rw [take_byte P t ht, hc, Glob.tab_star_nil]; exact h t (Nat.le_refl _)
theorem init_lit {P : List UInt8} {t : Nat} (ht : t < P.length) (hc : P[t] ≠ 42) : false = glob (P.take (t + 1)) [] := by
  rw [take_byte P t ht, Glob.tab_lit_nil _ _ hc]
theorem init_no {P : List UInt8} {bs : List Bool} {t : Nat} (h : Upto P [] bs t) (ht : t < P.length) (hb : bs.getD t false = false) : false = glob (P.take (t + 1)) [] := by
  by_cases hc : P[t] = 42
  · rw [← init_star h ht hc, hb]
  · exact init_lit ht hc

theorem round_star {P N : List UInt8} {cs ns : List Bool} {t m : Nat} {d : UInt8} (hcs : Upto P N cs m) (hns : Upto P (N ++ [d]) ns t) (ht : t < P.length) (hm : t + 1 ≤ m) (hc : P[t] = 42) :
    (ns.getD t false || cs.getD (t + 1) false) = glob (P.take (t + 1)) (N ++ [d]) := by
  rw [hns t (Nat.le_refl _), hcs (t + 1) hm, take_byte P t ht, hc, Glob.tab_star]
theorem round_lit {P N : List UInt8} {cs : List Bool} {t m : Nat} {d : UInt8} (hcs : Upto P N cs m) (ht : t < P.length) (hm : t ≤ m) (hc : P[t] ≠ 42) :
    (P[t] == d && cs.getD t false) = glob (P.take (t + 1)) (N ++ [d]) := by
  rw [hcs t hm, take_byte P t ht, Glob.tab_lit _ _ _ _ hc]

end Go.Proofs.Qxb6601488a.Tab
