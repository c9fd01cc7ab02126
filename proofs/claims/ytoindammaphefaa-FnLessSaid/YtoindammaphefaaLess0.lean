/- The walks of Less and Lighter: each answers whether the first triple is less than the second at the first place where they differ; nothing that was there is written. No conditions. -/
import Derived.Test.YtoindammaphefaaRows
import Derived.WalkKit
import Derived.ProofKit
import Derived.OpenShut
import Derived.Below
import Derived.Deep.QuietTactic
import Derived.BigQuiet
import Derived.WalkLawsBesides
namespace Go.Proofs.Ytoindammaphefaa
open Go.ChangeShapes Go.WideShapes Go.ChangeAt Go.RowKit

def lt3 (a0 a1 a2 b0 b1 b2 : Int) : Bool := decide (a0 < b0) || (decide (a0 = b0) && (decide (a1 < b1) || (decide (a1 = b1) && decide (a2 < b2))))

theorem below_drewN' {B : Nat} {a w : World} (h : Below B a w) (n : Nat) : Below B a (w.drewN n) := ⟨h.os, h.tape, h.output, h.size, h.block⟩
theorem lt3_0 {a0 a1 a2 b0 b1 b2 : Int} (h0 : (a0 != b0) = true) : decide (a0 < b0) = lt3 a0 a1 a2 b0 b1 b2 := by
  have h0' : a0 ≠ b0 := by simpa using h0
  simp [lt3, h0']
theorem lt3_1 {a0 a1 a2 b0 b1 b2 : Int} (h0 : (a0 != b0) = false) (h1 : (a1 != b1) = true) : decide (a1 < b1) = lt3 a0 a1 a2 b0 b1 b2 := by
  have h0' : a0 = b0 := by simpa using h0
  have h1' : a1 ≠ b1 := by simpa using h1
  simp [lt3, h0', h1']
theorem lt3_2 {a0 a1 a2 b0 b1 b2 : Int} (h0 : (a0 != b0) = false) (h1 : (a1 != b1) = false) : decide (a2 < b2) = lt3 a0 a1 a2 b0 b1 b2 := by
  have h0' : a0 = b0 := by simpa using h0
  have h1' : a1 = b1 := by simpa using h1
  simp [lt3, h0', h1']
theorem lt3_3 {a0 a1 a2 b0 b1 b2 : Int} (h0 : (a0 != b0) = false) (h1 : (a1 != b1) = false) (h2 : (a2 != b2) = false) : false = lt3 a0 a1 a2 b0 b1 b2 := by
  have h0' : a0 = b0 := by simpa using h0
  have h1' : a1 = b1 := by simpa using h1
  have h2' : a2 = b2 := by simpa using h2
  simp [lt3, h0', h1', h2']
theorem ret_bool {a b : Bool} (h : a = b) : Ending.returned (.bool a) = .returned (.bool b) := by rw [h]

set_option maxHeartbeats 400000 in
theorem less_any (a0 a1 a2 b0 b1 b2 : Int) (w : World) :
    Calls Try.prog 6 #[.agg #[.int .i64 a0, .int .i64 a1, .int .i64 a2], .agg #[.int .i64 b0, .int .i64 b1, .int .i64 b2]] w fun e w' => e = .returned (.bool (lt3 a0 a1 a2 b0 b1 b2)) ∧ Below w.heap.size w w' := by
  go_enter Try.func6, Try.ntmps6
  go_wp2
  refine wp_loop_rounds 4 ?_
  rw [rounds_succ]
  go_wp2
  go_quiet (fail)
  go_wp2
  · go_ret
    exact ⟨ret_bool (by simp [lt3]; omega), (by repeat (first | exact Below.refl _ _ | apply below_drewN' | refine Below.alloc ?_ (by simp) _))⟩
  go_quiet (fail)
  go_wp2
  · go_ret
    exact ⟨ret_bool (by simp [lt3]; omega), (by repeat (first | exact Below.refl _ _ | apply below_drewN' | refine Below.alloc ?_ (by simp) _))⟩
  rw [rounds_succ]
  go_wp2
  go_quiet (fail)
  go_wp2
  · go_ret
    exact ⟨ret_bool (by simp [lt3]; omega), (by repeat (first | exact Below.refl _ _ | apply below_drewN' | refine Below.alloc ?_ (by simp) _))⟩
  go_quiet (fail)
  go_wp2
  · go_ret
    exact ⟨ret_bool (by simp [lt3]; omega), (by repeat (first | exact Below.refl _ _ | apply below_drewN' | refine Below.alloc ?_ (by simp) _))⟩
  rw [rounds_succ]
  go_wp2
  go_quiet (fail)
  go_wp2
  · go_ret
    exact ⟨ret_bool (by simp [lt3]; omega), (by repeat (first | exact Below.refl _ _ | apply below_drewN' | refine Below.alloc ?_ (by simp) _))⟩
  go_quiet (fail)
  go_wp2
  · go_ret
    exact ⟨ret_bool (by simp [lt3]; omega), (by repeat (first | exact Below.refl _ _ | apply below_drewN' | refine Below.alloc ?_ (by simp) _))⟩
  rw [rounds_succ]
  go_wp2
  go_ret
  exact ⟨ret_bool (by simp [lt3]; omega), (by repeat (first | exact Below.refl _ _ | apply below_drewN' | refine Below.alloc ?_ (by simp) _))⟩

set_option maxHeartbeats 400000 in
theorem lighter_any (a0 a1 a2 b0 b1 b2 : Int) (w : World) :
    Calls Try.prog 5 #[.agg #[.int .i64 a0, .int .i64 a1, .int .i64 a2], .agg #[.int .i64 b0, .int .i64 b1, .int .i64 b2]] w fun e w' => e = .returned (.bool (lt3 a0 a1 a2 b0 b1 b2)) ∧ Below w.heap.size w w' := by
  go_enter Try.func5, Try.ntmps5
  go_wp2
  refine wp_loop_rounds 4 ?_
  rw [rounds_succ]
  go_wp2
  go_quiet (fail)
  go_wp2
  · go_quiet (fail)
    go_wp2
    go_ret
    exact ⟨ret_bool (lt3_0 ‹_›), (by repeat (first | exact Below.refl _ _ | apply below_drewN' | refine Below.alloc ?_ (by simp) _))⟩
  rw [rounds_succ]
  go_wp2
  go_quiet (fail)
  go_wp2
  · go_quiet (fail)
    go_wp2
    go_ret
    exact ⟨ret_bool (lt3_1 ‹_› ‹_›), (by repeat (first | exact Below.refl _ _ | apply below_drewN' | refine Below.alloc ?_ (by simp) _))⟩
  rw [rounds_succ]
  go_wp2
  go_quiet (fail)
  go_wp2
  · go_quiet (fail)
    go_wp2
    go_ret
    exact ⟨ret_bool (lt3_2 ‹_› ‹_›), (by repeat (first | exact Below.refl _ _ | apply below_drewN' | refine Below.alloc ?_ (by simp) _))⟩
  rw [rounds_succ]
  go_wp2
  go_ret
  exact ⟨ret_bool (lt3_3 ‹_› ‹_› ‹_›), (by repeat (first | exact Below.refl _ _ | apply below_drewN' | refine Below.alloc ?_ (by simp) _))⟩

theorem impl_any (a0 a1 a2 b0 b1 b2 : Int) (w : World) :
    Calls Try.prog 4 #[.agg #[.int .i64 a0, .int .i64 a1, .int .i64 a2], .agg #[.int .i64 b0, .int .i64 b1, .int .i64 b2]] w fun e w' => e = .returned (.bool (lt3 a0 a1 a2 b0 b1 b2)) ∧ Below w.heap.size w w' := by
  go_enter Try.func4, Try.ntmps4
  go_wp2_with (go_at_call 6; refine (less_any _ _ _ _ _ _ _).mono ?_; rintro e w' ⟨rfl, hb⟩)
  go_ret
  refine ⟨rfl, Below.trans (b := (w.alloc (.cells #[.int .i64 a0, .int .i64 a1, .int .i64 a2] 22)).alloc (.cells #[.int .i64 b0, .int .i64 b1, .int .i64 b2] 22)) (by repeat (first | exact Below.refl _ _ | apply below_drewN' | refine Below.alloc ?_ (by simp) _)) (hb.mono (by simp; omega))⟩

end Go.Proofs.Ytoindammaphefaa
