/- The walks of consumeParenthesis and consumeClosingParenthesis where a parenthesis stands at the very place. -/
import Derived.Test.YtoindammaphefaaGreatDoorPos
namespace Go.Proofs.YtoindammaphefaaGreatDoor
open Go.RowKit

theorem noWs_of' {c : UInt8} {l : List UInt8} (h : ¬ c = 32 ∧ ¬ c = 9 ∧ ¬ c = 13 ∧ ¬ c = 10 ∧ ¬ c = 12 ∧ ¬ c = 47) : noWs (c :: l) := by
  intro d hd; simp at hd; subst hd; exact h
set_option maxHeartbeats 1000000 in
set_option maxRecDepth 100000 in
theorem consumeOpen_any (g : Nat) (s : ByteArray) (i : Nat) (rest : List UInt8) (w : World) (hs : s.size ≤ 140737488351232)
    (c0 : w.cell? ⟨g, 0, none⟩ = some (.string s)) (c1 : w.cell? ⟨g, 1, none⟩ = some (.int .i64 i)) (f1 : w.frozen? ⟨g, 1, none⟩ = false)
    (hd : s.data.toList.drop i = 40 :: rest) (hr : noWs rest) :
    Calls Tryz.prog 51 #[.pointer (some ⟨g, 0, none⟩)] w fun e w' => e = .returned (.bool true) ∧ Moved w w' g (i + 1) := by
  have hd1 := drop_next hd
  have hi : i < s.size := drop_lt hd
  have hc : s[i] = 40 := drop_get hd hi
  have hlt : (i : Int) < (s.size : Int) := by omega
  obtain ⟨j, hj⟩ : ∃ j, j = i + 1 := ⟨_, rfl⟩
  rw [← hj] at hd1 ⊢
  have HJ := Lib.hid (show (i : Int) + 1 = (j : Int) by omega)
  have S1 := Lib.hid (fun W d0 d1 fz => skip_any g s j 0 rest W hs (by omega) d0 d1 fz (by simpa using hd1) hr)
  have F := Lib.hid (fun (w' : World) (j : Nat) (h : Moved w w' g j) => h.facts c0 c1 f1)
  have m0 := Moved.start c1
  clear hd hd1 hr hj
  go_enter Tryz.func51, Tryz.ntmps51
  go_wp2_with fail
  go_quiet (fail)
  go_wp2_with fail
  simp only [HJ.out]
  refine (S1.out _ ?_ ?_ ?_).mono ?_
  · exact (F.out _ _ ((m0.drewN _).set j)).1
  · exact (F.out _ _ ((m0.drewN _).set j)).2.1
  · exact (F.out _ _ ((m0.drewN _).set j)).2.2
  rintro e w1 ⟨rfl, m1⟩
  rw [Nat.add_zero] at m1
  have m2 := ((m0.drewN _).set j).trans m1
  clear m1
  go_wp2_with fail
  go_ret
  exact ⟨rfl, m2⟩

set_option maxHeartbeats 1000000 in
set_option maxRecDepth 100000 in
theorem consumeClose_any (g : Nat) (s : ByteArray) (i : Nat) (rest : List UInt8) (w : World) (hs : s.size ≤ 140737488351232)
    (c0 : w.cell? ⟨g, 0, none⟩ = some (.string s)) (c1 : w.cell? ⟨g, 1, none⟩ = some (.int .i64 i)) (f1 : w.frozen? ⟨g, 1, none⟩ = false)
    (hd : s.data.toList.drop i = 41 :: rest) :
    Calls Tryz.prog 52 #[.pointer (some ⟨g, 0, none⟩)] w fun e w' => e = .returned (.bool true) ∧ Moved w w' g (i + 1) := by
  have hi : i < s.size := drop_lt hd
  have hc : s[i] = 41 := drop_get hd hi
  have hlt : (i : Int) < (s.size : Int) := by omega
  have S1 := Lib.hid (fun W d0 d1 fz => skip_any g s i 0 (41 :: rest) W hs (by omega) d0 d1 fz (by simpa using hd) (noWs_of' (by decide)))
  have F := Lib.hid (fun (w' : World) (j : Nat) (h : Moved w w' g j) => h.facts c0 c1 f1)
  have m0 := Moved.start c1
  clear hd
  go_enter Tryz.func52, Tryz.ntmps52
  go_wp2_with fail
  refine (S1.out _ c0 c1 f1).mono ?_
  rintro e w1 ⟨rfl, m1⟩
  rw [Nat.add_zero] at m1
  have m2 := m0.trans m1
  clear m1
  obtain ⟨d0, d1, df⟩ := F.out _ _ m2
  go_wp2_with fail
  go_quiet (fail)
  go_wp2_with fail
  go_ret
  exact ⟨rfl, (m2.drewN _).set (i + 1)⟩
end Go.Proofs.YtoindammaphefaaGreatDoor
