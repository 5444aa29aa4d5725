/-
  THE WALKS OF kindOf (18), of its exported name (11) and of the bound on the length (10).
-/
import Derived.Test.Qxb6601403aRows
import Derived.WalkKit
import Derived.ProofKit
import Derived.WalkLawsBesides
import Derived.WalkSpells
namespace Go.Proofs.Qxb6601403a
open Go.ChangeShapes Go.WideShapes Go.ChangeAt Go.RowKit

def noValue : ByteArray := { data := #[110, 111, 32, 118, 97, 108, 117, 101] }
def kindB (c : Int) : ByteArray :=
  if c = 34 then { data := #[97, 32, 115, 116, 114, 105, 110, 103] } else
  if c = 110 then { data := #[110, 117, 108, 108] } else
  if c = 116 ∨ c = 102 then { data := #[97, 32, 98, 111, 111, 108, 101, 97, 110] } else
  if c = 123 then { data := #[97, 110, 32, 111, 98, 106, 101, 99, 116] } else
  if c = 91 then { data := #[97, 110, 32, 97, 114, 114, 97, 121] } else
  { data := #[97, 32, 110, 117, 109, 98, 101, 114, 32, 119, 105, 116, 104, 32, 97, 32, 102, 114, 97, 99, 116, 105, 111, 110, 32, 111, 114, 32, 97, 110, 32, 101, 120, 112, 111, 110, 101, 110, 116] }

theorem ret_str {a b : ByteArray} (h : a = b) : Ending.returned (.string a) = .returned (.string b) := by rw [h]

theorem kind_none (ao : Option Addr) (cap : Nat) (w : World) :
    Calls Try.prog 18 #[.slice ao 0 cap] w fun e w' => e = .returned (.string noValue) ∧ w = w' := by
  go_enter Try.func18, Try.ntmps18
  go_wp2
  go_ret
  exact ⟨rfl, rfl⟩

theorem kind_some (b off len cap : Nat) (c : Int) (w : World) (hl : 0 < len) (hm : len ≤ 9223372036854775807) (hc : w.cell? ⟨b, off, none⟩ = some (.int .u8 c)) :
    Calls Try.prog 18 #[.slice (some ⟨b, off, none⟩) len cap] w fun e w' => e = .returned (.string (kindB c)) ∧ w = w' := by
  have hp : (0 : Int) < (len : Int) := by omega
  have hne : ((len : Int) == 0) = false := by simp; omega
  go_enter Try.func18, Try.ntmps18
  go_wp2
  all_goals
    go_ret
    refine ⟨ret_str ?_, rfl⟩
    simp_all [kindB]

theorem kind_nv (c : Int) : ((kindB c).toList == noValue.toList) = false := by
  rw [ByteArray.toList_eq, ByteArray.toList_eq]
  unfold kindB noValue
  repeat' split
  all_goals decide

/-- its exported name -/
theorem zkind_none (ao : Option Addr) (cap : Nat) (w : World) :
    Calls Try.prog 11 #[.slice ao 0 cap] w fun e w' => e = .returned (.string noValue) ∧ w = w' := by
  go_enter Try.func11, Try.ntmps11
  go_wp2_with (go_at_call 18; refine (kind_none _ _ _).mono ?_; rintro e w' ⟨rfl, rfl⟩)
  go_ret
  exact ⟨rfl, rfl⟩

theorem zkind_some (b off len cap : Nat) (c : Int) (w : World) (hl : 0 < len) (hm : len ≤ 9223372036854775807) (hc : w.cell? ⟨b, off, none⟩ = some (.int .u8 c)) :
    Calls Try.prog 11 #[.slice (some ⟨b, off, none⟩) len cap] w fun e w' => e = .returned (.string (kindB c)) ∧ w = w' := by
  go_enter Try.func11, Try.ntmps11
  go_wp2_with (go_at_call 18; refine (kind_some _ _ _ _ _ _ hl hm hc).mono ?_; rintro e w' ⟨rfl, rfl⟩)
  go_ret
  exact ⟨rfl, rfl⟩

theorem bytes_small (ao : Option Addr) (len cap : Nat) (w : World) (h : len ≤ 1048576) :
    Calls Try.prog 10 #[.slice ao len cap] w fun e w' => e = .returned (.bool true) ∧ w = w' := by
  go_enter Try.func10, Try.ntmps10
  go_wp2
  go_ret
  exact ⟨rfl, rfl⟩

theorem bytes_great (ao : Option Addr) (len cap : Nat) (w : World) (h : 1048576 < len) :
    Calls Try.prog 10 #[.slice ao len cap] w fun e w' => e = .returned (.bool false) ∧ w = w' := by
  go_enter Try.func10, Try.ntmps10
  go_wp2
  go_ret
  exact ⟨rfl, rfl⟩

end Go.Proofs.Qxb6601403a
