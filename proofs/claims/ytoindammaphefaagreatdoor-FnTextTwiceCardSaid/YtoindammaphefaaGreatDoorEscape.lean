/- The walk of the parser's parseEscape at a backslash before a byte that is taken as it is. No conditions beside that. -/
import Derived.Test.YtoindammaphefaaGreatDoorChars
namespace Go.Proofs.YtoindammaphefaaGreatDoor
open Go.RowKit

/-- The parser at block g, after some draws, with its position set to j; all else as it was. -/
def Moved (w w' : World) (g : Nat) (j : Nat) : Prop := ∃ n, w' = (w.setCell ⟨g, 1, none⟩ (.int .i64 j)).drewN n

def plainEsc (c : Int) : Prop := hexB c = false ∧ (c == 10) = false ∧ (c == 12) = false ∧ (c == 13) = false

set_option maxHeartbeats 400000 in
set_option maxRecDepth 100000 in
theorem parseEscape_plain (g : Nat) (s : ByteArray) (i : Nat) (w : World) (hi : i + 1 < s.size) (hs : s.size ≤ 140737488351232)
    (c0 : w.cell? ⟨g, 0, none⟩ = some (.string s)) (c1 : w.cell? ⟨g, 1, none⟩ = some (.int .i64 i)) (f1 : w.frozen? ⟨g, 1, none⟩ = false)
    (h0 : (s[i]'(by omega)).toNat = 92) (h1 : plainEsc ((s[i + 1]'hi).toNat : Int)) :
    Calls Tryz.prog 58 #[.pointer (some ⟨g, 0, none⟩)] w fun e w' => e = .returned (.tuple #[.string (s.extract (i + 1) (i + 2)), .nilIface]) ∧ Moved w w' g (i + 2) := by
  obtain ⟨h2, h3, h4, h5⟩ := h1
  have hlt : decide ((s.size : Int) < (i : Int) + 2) = false := by simp; omega
  have hlt' : (i : Int) < s.size := by omega
  go_enter Tryz.func58, Tryz.ntmps58
  go_wp2_with (fail)
  go_quiet (fail)
  go_wp2_with (go_at_call 65; refine (hexDigit_any _ _).mono ?_; rw [h2]; rintro e w' ⟨rfl, rfl⟩)
  go_ret2
  exact ⟨rfl, nq, rfl⟩
end Go.Proofs.YtoindammaphefaaGreatDoor
