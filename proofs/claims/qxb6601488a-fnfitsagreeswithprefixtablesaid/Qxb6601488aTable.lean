/-
  THE WALK OF globTable (10): the table over prefixes gives the same answer.
-/
import Derived.Test.Qxb6601488aTab
import Derived.Test.Qxb6601488aFits
namespace Go.Proofs.Qxb6601488a
open Go.ChangeShapes Go.WideShapes Go.ChangeAt Go.RowKit
open Glob (glob)
open Tab (Two Row Upto)

theorem info4 : (Try.prog.info? 4).map (fun i => (i.zero, i.size, i.bytes)) = some (some (.bool false), 1, 1) := by kernel_rfl

theorem tab_start {w w1 w2 : World} {n : Nat} (h1 : w1.ownsRow w.heap.size 4 1 (.slice (some ⟨w.heap.size, 0, none⟩) n n) n (madeCells (Value.bool false).cells (n * 1)).toList) (g1 : w.grownBy w1 none)
    (h2 : w2.ownsRow w1.heap.size 4 1 (.slice (some ⟨w1.heap.size, 0, none⟩) n n) n (madeCells (Value.bool false).cells (n * 1)).toList) (g2 : w1.grownBy w2 none) (m : Nat) (hn : n = m + 1) :
    Two w w2 m w.heap.size w1.heap.size (List.replicate (m + 1) false) (List.replicate (m + 1) false) := by
  subst hn
  have r1 := Tab.made h1
  have r2 := Tab.made h2
  have lt : w.heap.size < w1.heap.size := by
    unfold Row at r1
    rcases Nat.lt_or_ge w.heap.size w1.heap.size with h | h
    · exact h
    · rw [Array.getElem?_eq_none h] at r1; cases r1
  have r1' : Row w2 w.heap.size (List.replicate (m + 1) false) := by
    unfold Row at r1 ⊢
    rw [g2.block _ lt (by simp)]
    exact r1
  exact ⟨by simp, by simp, r1', r2, by omega, Nat.le_refl _, by omega, ((Below.refl _ _).grown g1 (Nat.le_refl _) (fun k hk => by cases hk)).grown g2 (by omega) (fun k hk => by cases hk)⟩


theorem init_val {P : ByteArray} {bs : List Bool} {t : Nat} (h : Upto P.data.toList [] bs t) (ht : t < P.data.toList.length) (hb : true = bs.getD t false) :
    (((P[t]'(by rw [len_list] at ht; exact ht)).toNat : Int) == 42) = glob (P.data.toList.take (t + 1)) [] := by
  cases hc : (((P[t]'(by rw [len_list] at ht; exact ht)).toNat : Int) == 42)
  · exact Tab.init_lit ht (not42 hc)
  · rw [← Tab.init_star h ht (is42 hc)]; exact hb

theorem int_byte {c d : UInt8} (h : (c.toNat : Int) = (d.toNat : Int)) : c = d := by
  apply UInt8.toNat_inj.1
  omega
theorem int_other {c d : UInt8} (h : ¬ (c.toNat : Int) = (d.toNat : Int)) : c ≠ d := by
  rintro rfl; exact h rfl
theorem take_byte' (s : ByteArray) (k : Nat) (h : k < s.size) : s.data.toList.take (k + 1) = s.data.toList.take k ++ [s[k]] := by
  rw [List.take_succ_eq_append_getElem (by simpa using h)]; rfl

theorem val_star_f {P N : List UInt8} {cs ns : List Bool} {t m : Nat} {d : UInt8} {b : Bool} (hcs : Upto P N cs m) (hns : Upto P (N ++ [d]) ns t) (ht : t < P.length) (hm : t + 1 ≤ m) (hc : P[t] = 42)
    (ha : false = ns.getD t false) (hb : b = cs.getD (t + 1) false) : b = glob (P.take (t + 1)) (N ++ [d]) := by
  rw [← Tab.round_star hcs hns ht hm hc, ← ha, ← hb]; rfl
theorem val_star_t {P N : List UInt8} {cs ns : List Bool} {t m : Nat} {d : UInt8} (hcs : Upto P N cs m) (hns : Upto P (N ++ [d]) ns t) (ht : t < P.length) (hm : t + 1 ≤ m) (hc : P[t] = 42)
    (ha : true = ns.getD t false) : true = glob (P.take (t + 1)) (N ++ [d]) := by
  rw [← Tab.round_star hcs hns ht hm hc, ← ha]; rfl
theorem val_eq {P N : List UInt8} {cs : List Bool} {t m : Nat} {d : UInt8} {c : Bool} (hcs : Upto P N cs m) (ht : t < P.length) (hm : t ≤ m) (hc : P[t] ≠ 42) (he : P[t] = d)
    (h : c = cs.getD t false) : c = glob (P.take (t + 1)) (N ++ [d]) := by
  rw [← Tab.round_lit hcs ht hm hc, ← h, he]; simp
theorem val_ne {P N : List UInt8} {cs : List Bool} {t m : Nat} {d : UInt8} (hcs : Upto P N cs m) (ht : t < P.length) (hm : t ≤ m) (hc : P[t] ≠ 42) (he : P[t] ≠ d) :
    false = glob (P.take (t + 1)) (N ++ [d]) := by
  rw [← Tab.round_lit hcs ht hm hc]; simp [he]

set_option maxHeartbeats 1000000 in
theorem table_any (P N : ByteArray) (w : World) (hP : P.size ≤ 4096) (hN : N.size ≤ 4096) :
    Calls Try.prog 10 #[.string P, .string N] w fun e w' => e = .returned (.bool (glob P.data.toList N.data.toList)) ∧ Below w.heap.size w w' := by
  obtain ⟨i0, hi, hz0, hz1, hz2⟩ := info_parts info4
  go_enter Try.func10, Try.ntmps10
  go_wp2_with (first
    | (at_make; refine wpList_make_full _ rfl (.tmp 16) (.tmp 16) 29 rfl w.heap.size 4 i0 (.bool false) 1 Try.underlying29 hi hz0 hz1 .i64 .i64 _ _ (P.size + 1) rfl rfl (by omega) (by omega) (by rw [hz2]; omega) (by unfold maxLen; omega) (Nat.le_refl _) ?_; intro w1 hown1 hgrow1)
    | (at_make; refine wpList_make_full _ rfl (.tmp 19) (.tmp 19) 29 rfl _ 4 i0 (.bool false) 1 Try.underlying29 hi hz0 hz1 .i64 .i64 _ _ (P.size + 1) rfl rfl (by omega) (by omega) (by rw [hz2]; omega) (by unfold maxLen; omega) (Nat.le_refl _) ?_; intro w2 hown2 hgrow2; have T0 := tab_start hown1 hgrow1 hown2 hgrow2 P.size rfl; have c0 := T0.c.cell 0 (by simp); have f0 := T0.c.frozen 0))
  have T1 := T0.setC 0 true
  have U1 : Upto P.data.toList [] ((List.replicate (P.size + 1) false).set 0 true) 0 := Upto.zero_nil _ _ (by simp)
  obtain ⟨cs1, hcs1⟩ : ∃ cs, cs = (List.replicate (P.size + 1) false).set 0 true := ⟨_, rfl⟩
  obtain ⟨ns1, hns1⟩ : ∃ ns, ns = List.replicate (P.size + 1) false := ⟨_, rfl⟩
  rw [← hcs1, ← hns1] at T1
  rw [← hcs1] at U1
  clear hcs1 hns1 c0 f0 T0 hown1 hown2 hgrow1 hgrow2
  obtain ⟨bn1, hbn1⟩ : ∃ b, b = w1.heap.size := ⟨_, rfl⟩
  rw [← hbn1] at T1 ⊢
  clear hbn1
  go_loopw [8] (fun i wr => ∃ (t : Nat) (cs : List Bool), i = .int .i64 ((t : Int) + 1) ∧ t ≤ P.size ∧ Two w wr P.size w.heap.size bn1 cs ns1 ∧ Upto P.data.toList [] cs t) (fun i _ => P.size + 2 - (intOf i).toNat)
  case atStart => exact ⟨0, cs1, rfl, Nat.zero_le _, T1, U1⟩
  case round =>
    clear T1 U1
    obtain ⟨t, cs, rfl, ht, T, U⟩ := hrel
    by_cases hlt : t < P.size
    · have hlt' : t < P.data.toList.length := by rw [len_list]; exact hlt
      have hcl := T.cl
      have f1 := T.c.frozen (t + 1)
      have c1 := T.c.cell (t + 1) (by omega)
      have c0 := T.c.cell t (by omega)
      obtain ⟨b, hb⟩ : ∃ b, b = cs.getD t false := ⟨_, rfl⟩
      rw [← hb] at c0
      have HB : Hid (b = cs.getD t false) := hb
      have HT : Hid (Two w wr P.size w.heap.size bn1 cs ns1) := T
      have HU : Hid (Upto P.data.toList [] cs t) := U
      clear hb T U hcl
      cases b
      · go_wp2
        go_roundw
        case rel => exact ⟨t + 1, _, by go_num, by omega, Two.setC HT (t + 1) false, Upto.next HU (by rw [Two.cl HT]; omega) false (Tab.init_no HU hlt' HB.out.symm)⟩
        case measure => simp [intOf]; omega
      · go_wp2
        go_roundw
        case rel => exact ⟨t + 1, _, by go_num, by omega, Two.setC HT (t + 1) ((P[t].toNat : Int) == 42), Upto.next HU (by rw [Two.cl HT]; omega) _ (init_val HU hlt' HB.out)⟩
        case measure => simp [intOf]; omega
    · have ht' : t = P.size := by omega
      have HT : Hid (Two w wr P.size w.heap.size bn1 cs ns1) := T
      have HU : Hid (Upto P.data.toList [] cs P.size) := (by rw [← ht']; exact U : Upto P.data.toList [] cs P.size)
      clear T U ht'
      go_wp2
      go_loopw [6, 7, 9] (fun c n i wx => ∃ (k bc bn : Nat) (cs ns : List Bool), c = .slice (some ⟨bc, 0, none⟩) (P.size + 1) (P.size + 1) ∧ n = .slice (some ⟨bn, 0, none⟩) (P.size + 1) (P.size + 1) ∧ i = .int .i64 k ∧ k ≤ N.size ∧ Two w wx P.size bc bn cs ns ∧ Upto P.data.toList (N.data.toList.take k) cs P.size) (fun _ _ i _ => N.size - (intOf i).toNat)
      case atStart => exact ⟨0, _, _, cs, ns1, rfl, rfl, rfl, Nat.zero_le _, HT, HU⟩
      case round =>
        clear HT HU
        obtain ⟨k, bc, bn, cs2, ns2, rfl, rfl, rfl, hk, T, U⟩ := hrel
        have hcl := T.cl
        have hnl := T.nl
        by_cases hkn : k < N.size
        · have hkn' : k < N.data.toList.length := by rw [len_list]; exact hkn
          have f0 := T.n.frozen 0
          have c0 := T.n.cell 0 (by omega)
          have T3 := T.setN 0 false
          have U3 := Upto.zero_cons P.data.toList (N.data.toList.take k) N[k] ns2
          have HT3 : Hid (Two w (wr.setCell ⟨bn, 0, none⟩ (.bool false)) P.size bc bn cs2 (ns2.set 0 false)) := T3
          have HU3 : Hid (Upto P.data.toList (N.data.toList.take k ++ [N[k]]) (ns2.set 0 false) 0) := U3
          have HU : Hid (Upto P.data.toList (N.data.toList.take k) cs2 P.size) := U
          clear T3 U3 U T
          go_wp2
          go_loopw [11] (fun j wx => ∃ (t : Nat) (ns : List Bool), j = .int .i64 ((t : Int) + 1) ∧ t ≤ P.size ∧ Two w wx P.size bc bn cs2 ns ∧ Upto P.data.toList (N.data.toList.take k ++ [N[k]]) ns t) (fun j _ => P.size + 2 - (intOf j).toNat)
          case atStart => exact ⟨0, _, rfl, Nat.zero_le _, HT3, HU3⟩
          case round =>
            clear HT3 HU3 f0 c0 hnl
            obtain ⟨t, ns, rfl, ht, T, V⟩ := hrel
            by_cases hlt : t < P.size
            · have hlt' : t < P.data.toList.length := by rw [len_list]; exact hlt
              have hnl := T.nl
              have nf := T.n.frozen (t + 1)
              have n1 := T.n.cell (t + 1) (by omega)
              have n0 := T.n.cell t (by omega)
              have k1 := T.c.cell (t + 1) (by omega)
              have k0 := T.c.cell t (by omega)
              obtain ⟨a, ha⟩ : ∃ a, a = ns.getD t false := ⟨_, rfl⟩
              obtain ⟨b, hb⟩ : ∃ b, b = cs2.getD (t + 1) false := ⟨_, rfl⟩
              obtain ⟨c, hc⟩ : ∃ c, c = cs2.getD t false := ⟨_, rfl⟩
              rw [← ha] at n0
              rw [← hb] at k1
              rw [← hc] at k0
              have HA : Hid (a = ns.getD t false) := ha
              have HB : Hid (b = cs2.getD (t + 1) false) := hb
              have HC : Hid (c = cs2.getD t false) := hc
              have HT : Hid (Two w wr P.size bc bn cs2 ns) := T
              have HV : Hid (Upto P.data.toList (N.data.toList.take k ++ [N[k]]) ns t) := V
              clear ha hb hc T V hnl hcl
              cases a
              · go_wp2
                · have h42 : ((P[t].toNat : Int) == 42) = true := by assumption
                  go_roundw
                  case rel => exact ⟨t + 1, _, by go_num, by omega, Two.setN HT (t + 1) b, Upto.next HV (by rw [Two.nl HT]; omega) _ (val_star_f HU HV hlt' (by omega) (is42 h42) HA HB)⟩
                  case measure => simp [intOf]; omega
                · have h42 : ((P[t].toNat : Int) == 42) = false := by assumption
                  have he : (P[t].toNat : Int) = (N[k].toNat : Int) := by assumption
                  go_roundw
                  case rel => exact ⟨t + 1, _, by go_num, by omega, Two.setN HT (t + 1) c, Upto.next HV (by rw [Two.nl HT]; omega) _ (val_eq HU hlt' (by omega) (not42 h42) (int_byte he) HC)⟩
                  case measure => simp [intOf]; omega
                · have h42 : ((P[t].toNat : Int) == 42) = false := by assumption
                  have he : ¬ (P[t].toNat : Int) = (N[k].toNat : Int) := by assumption
                  go_roundw
                  case rel => exact ⟨t + 1, _, by go_num, by omega, Two.setN HT (t + 1) false, Upto.next HV (by rw [Two.nl HT]; omega) _ (val_ne HU hlt' (by omega) (not42 h42) (int_other he))⟩
                  case measure => simp [intOf]; omega
              · go_wp2
                · have h42 : ((P[t].toNat : Int) == 42) = true := by assumption
                  go_roundw
                  case rel => exact ⟨t + 1, _, by go_num, by omega, Two.setN HT (t + 1) true, Upto.next HV (by rw [Two.nl HT]; omega) _ (val_star_t HU HV hlt' (by omega) (is42 h42) HA)⟩
                  case measure => simp [intOf]; omega
                · have h42 : ((P[t].toNat : Int) == 42) = false := by assumption
                  have he : (P[t].toNat : Int) = (N[k].toNat : Int) := by assumption
                  go_roundw
                  case rel => exact ⟨t + 1, _, by go_num, by omega, Two.setN HT (t + 1) c, Upto.next HV (by rw [Two.nl HT]; omega) _ (val_eq HU hlt' (by omega) (not42 h42) (int_byte he) HC)⟩
                  case measure => simp [intOf]; omega
                · have h42 : ((P[t].toNat : Int) == 42) = false := by assumption
                  have he : ¬ (P[t].toNat : Int) = (N[k].toNat : Int) := by assumption
                  go_roundw
                  case rel => exact ⟨t + 1, _, by go_num, by omega, Two.setN HT (t + 1) false, Upto.next HV (by rw [Two.nl HT]; omega) _ (val_ne HU hlt' (by omega) (not42 h42) (int_other he))⟩
                  case measure => simp [intOf]; omega
            · have ht' : t = P.size := by omega
              have HT : Hid (Two w wr P.size bc bn cs2 ns) := T
              have HV : Hid (Upto P.data.toList (N.data.toList.take (k + 1)) ns P.size) := (by rw [take_byte' N k hkn, ← ht']; exact V : Upto P.data.toList (N.data.toList.take (k + 1)) ns P.size)
              clear T V ht'
              go_wp2
              go_roundw
              case rel => exact ⟨k + 1, bn, bc, ns, cs2, rfl, rfl, by go_num, by omega, Two.swap HT, HV⟩
              case measure => simp [intOf]; omega
        · have cm := T.c.cell P.size (by omega)
          obtain ⟨b, hb⟩ : ∃ b, b = cs2.getD P.size false := ⟨_, rfl⟩
          rw [← hb] at cm
          have HB : Hid (b = glob P.data.toList N.data.toList) := (by
            rw [hb, U P.size (Nat.le_refl _), List.take_of_length_le (by rw [len_list]; exact Nat.le_refl _), List.take_of_length_le (by rw [len_list]; omega)] : b = glob P.data.toList N.data.toList)
          have HT : Hid (Two w wr P.size bc bn cs2 ns2) := T
          clear hb U T
          go_wp2
          go_ret
          exact ⟨ret_bool HB.out, Two.below HT⟩

end Go.Proofs.Qxb6601488a
