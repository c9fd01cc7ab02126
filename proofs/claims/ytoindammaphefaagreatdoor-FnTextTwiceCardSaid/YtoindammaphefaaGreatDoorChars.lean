/- The walks of the parser's tests of one byte: nameStart, nameChar, hexDigit: each answers whether the byte is of its class. No conditions. -/
import Derived.Test.YtoindammaphefaaGreatDoorRows
import Derived.WalkKit
import Derived.Below
import Derived.Deep.QuietTactic
import Derived.BigQuiet
import Derived.WalkLawsBesides
import Derived.WalkSpells
namespace Go.Proofs.YtoindammaphefaaGreatDoor
open Go.RowKit

/-- Letters, a low line, bytes above 127. -/
def nameStartB (c : Int) : Bool := decide (97 ≤ c ∧ c ≤ 122 ∨ 65 ≤ c ∧ c ≤ 90 ∨ c = 95 ∨ 127 < c)
/-- Those, dashes and figures. -/
def nameCharB (c : Int) : Bool := decide (97 ≤ c ∧ c ≤ 122 ∨ 65 ≤ c ∧ c ≤ 90 ∨ c = 95 ∨ 127 < c ∨ c = 45 ∨ 48 ≤ c ∧ c ≤ 57)
def hexB (c : Int) : Bool := decide (48 ≤ c ∧ c ≤ 57 ∨ 97 ≤ c ∧ c ≤ 102 ∨ 65 ≤ c ∧ c ≤ 70)

theorem ret_bool {a b : Bool} (h : a = b) : Ending.returned (.bool a) = .returned (.bool b) := by rw [h]

theorem nameStart_any (c : Int) (w : World) :
    Calls Tryz.prog 55 #[.int .u8 c] w fun e w' => e = .returned (.bool (nameStartB c)) ∧ w = w' := by
  go_enter Tryz.func55, Tryz.ntmps55
  go_wp2
  all_goals (go_ret; exact ⟨ret_bool (by rw [Bool.eq_iff_iff]; simp [nameStartB] <;> omega), rfl⟩)

theorem nameChar_any (c : Int) (w : World) :
    Calls Tryz.prog 57 #[.int .u8 c] w fun e w' => e = .returned (.bool (nameCharB c)) ∧ w = w' := by
  go_enter Tryz.func57, Tryz.ntmps57
  go_wp2
  all_goals (go_ret; exact ⟨ret_bool (by rw [Bool.eq_iff_iff]; simp [nameCharB] <;> omega), rfl⟩)

theorem hexDigit_any (c : Int) (w : World) :
    Calls Tryz.prog 65 #[.int .u8 c] w fun e w' => e = .returned (.bool (hexB c)) ∧ w = w' := by
  go_enter Tryz.func65, Tryz.ntmps65
  go_wp2
  all_goals (go_ret; exact ⟨ret_bool (by rw [Bool.eq_iff_iff]; simp [hexB] <;> omega), rfl⟩)

/-- What a string's byte is, as a number; 0 behind its end. -/
def at_ (s : ByteArray) (i : Nat) : Nat := (s.data.toList.getD i 0).toNat
theorem at_get (s : ByteArray) (i : Nat) (h : i < s.size) : (s[i]).toNat = at_ s i := by
  have h' : i < s.data.toList.length := by simpa using h
  simp [at_, List.getD, List.getElem?_eq_getElem h']
  rfl
theorem at_lt (s : ByteArray) (i : Nat) : at_ s i < 256 := UInt8.toNat_lt _
end Go.Proofs.YtoindammaphefaaGreatDoor
