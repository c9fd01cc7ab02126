/- The walk of laws.FnLess: it returns true for every two triples, whatever order its one region takes; three cases. No conditions. -/
import Derived.Test.YtoindammaphefaaLess0
import Derived.ChangeKeysEq
namespace Go.Proofs.Ytoindammaphefaa
open Go.ChangeShapes Go.WideShapes Go.ChangeAt Go.RowKit

/-- The class of worlds in which the region's operations run: nothing below block B has turned, and the two boxes hold their triples. -/
def Cls (w0 : World) (p q : Nat) (a0 a1 a2 b0 b1 b2 : Int) (w' : World) : Prop :=
  Below w0.heap.size w0 w' ∧ w'.cell? ⟨p, 0, none⟩ = some (.int .i64 a0) ∧ w'.cell? ⟨p, 1, none⟩ = some (.int .i64 a1) ∧ w'.cell? ⟨p, 2, none⟩ = some (.int .i64 a2) ∧
    w'.cell? ⟨q, 0, none⟩ = some (.int .i64 b0) ∧ w'.cell? ⟨q, 1, none⟩ = some (.int .i64 b1) ∧ w'.cell? ⟨q, 2, none⟩ = some (.int .i64 b2)
theorem Cls.step {w0 : World} {p q : Nat} {a0 a1 a2 b0 b1 b2 : Int} {w' w'' : World} (h : Cls w0 p q a0 a1 a2 b0 b1 b2 w') (hp : p < w0.heap.size) (hq : q < w0.heap.size) (hb : Below w'.heap.size w' w'') : Cls w0 p q a0 a1 a2 b0 b1 b2 w'' := by
  obtain ⟨h0, h1, h2, h3, h4, h5, h6⟩ := h
  have hs := h0.size
  have g : Below w0.heap.size w' w'' := hb.mono hs
  exact ⟨h0.trans g, (g.cell (p := ⟨p, 0, none⟩) hp).trans h1, (g.cell (p := ⟨p, 1, none⟩) hp).trans h2, (g.cell (p := ⟨p, 2, none⟩) hp).trans h3, (g.cell (p := ⟨q, 0, none⟩) hq).trans h4, (g.cell (p := ⟨q, 1, none⟩) hq).trans h5, (g.cell (p := ⟨q, 2, none⟩) hq).trans h6⟩

theorem lt3_irr (a0 a1 a2 : Int) : lt3 a0 a1 a2 a0 a1 a2 = false := by simp [lt3]
theorem lt3_eq {a0 a1 a2 b0 b1 b2 : Int} (h : lt3 a0 a1 a2 b0 b1 b2 = false) (h' : lt3 b0 b1 b2 a0 a1 a2 = false) : a0 = b0 ∧ a1 = b1 ∧ a2 = b2 := by
  simp [lt3] at h h'
  omega

def eq3 (a0 a1 a2 b0 b1 b2 : Int) : Bool := a0 == b0 && (a1 == b1 && a2 == b2)
theorem eq_arr (a0 a1 a2 b0 b1 b2 : Int) (w : World) :
    (Op.equalIn 10000 22 (.agg #[.int .i64 a0, .int .i64 a1, .int .i64 a2]) (.agg #[.int .i64 b0, .int .i64 b1, .int .i64 b2])).run Try.prog w = .ok (eq3 a0 a1 a2 b0 b1 b2) w := by
  obtain ⟨i0, hi, hz0, hz1, hz2⟩ := info_parts (show (Try.prog.info? 3).map (fun i => (i.zero, i.size, i.bytes)) = some (some (.int .i64 0), 1, 8) by kernel_rfl)
  have hc : Try.prog.cellsOf 3 = 1 := by kernel_rfl
  rw [show (10000 : Nat) = 9999 + 1 from rfl, run_equalIn_array w 9999 _ _ Try.underlying22 hi, hc]
  simp [List.range_succ, Op.eqItems, part, run_equalIn_int, go_sem, eq3]
  by_cases h0 : a0 = b0 <;> by_cases h1 : a1 = b1 <;> by_cases h2 : a2 = b2 <;> simp [h0, h1, h2]

theorem cls0 (w : World) (a0 a1 a2 b0 b1 b2 : Int) : Cls ((w.alloc (.cells #[.int .i64 a0, .int .i64 a1, .int .i64 a2] 22)).alloc (.cells #[.int .i64 b0, .int .i64 b1, .int .i64 b2] 22)) w.heap.size (w.heap.size + 1) a0 a1 a2 b0 b1 b2
    ((w.alloc (.cells #[.int .i64 a0, .int .i64 a1, .int .i64 a2] 22)).alloc (.cells #[.int .i64 b0, .int .i64 b1, .int .i64 b2] 22)).drew :=
  ⟨⟨rfl, rfl, rfl, Nat.le_refl _, fun _ _ => rfl⟩, by go_simp, by go_simp, by go_simp, by go_simp, by go_simp, by go_simp⟩

set_option maxHeartbeats 1000000 in
theorem walk_lt (a0 a1 a2 b0 b1 b2 : Int) (w : World) (h1 : lt3 a0 a1 a2 b0 b1 b2 = true) (h2 : lt3 b0 b1 b2 a0 a1 a2 = false) (h3 : eq3 a0 a1 a2 b0 b1 b2 = false) :
    Calls Try.prog 3 #[.agg #[.int .i64 a0, .int .i64 a1, .int .i64 a2], .agg #[.int .i64 b0, .int .i64 b1, .int .i64 b2]] w fun e w' => e = .returned (.bool true) ∧ Below w.heap.size w w' := by
  go_enter Try.func3, Try.ntmps3
  go_wp2_with (fail)
  have heq := eq_arr a0 a1 a2 b0 b1 b2
  refine wp_region_quiet (C := Cls ((w.alloc (.cells #[.int .i64 a0, .int .i64 a1, .int .i64 a2] 22)).alloc (.cells #[.int .i64 b0, .int .i64 b1, .int .i64 b2] 22)) w.heap.size (w.heap.size + 1) a0 a1 a2 b0 b1 b2) (by kernel_rfl) (by kernel_rfl) (cls0 w a0 a1 a2 b0 b1 b2) ?_
  repeat (first
    | (refine wpQuiet_step (fun K hK => ?_)
       go_simp
       refine hK _ ?_
       clear hK K)
    | (refine wpQuiet_step (fun K hK => ?_)
       go_simp
       apply Exists.intro
       refine ⟨fun w1 hC => ?_, hK _ ?_⟩
       (obtain ⟨hb, c0, c1, c2, d0, d1, d2⟩ := id hC
        first
          | (go_simp; rfl)
          | (go_simp
             go_at_call 4
             exact (impl_any _ _ _ _ _ _ w1).mono fun e w'' hh => ⟨hh.1, hC.step (by simp; omega) (by simp) hh.2⟩)
          | (go_simp
             go_at_call 5
             exact (lighter_any _ _ _ _ _ _ w1).mono fun e w'' hh => ⟨hh.1, hC.step (by simp; omega) (by simp) hh.2⟩))
       clear hK K))
  refine wpQuiet_nil ?_
  intro w1 hC
  have hb : Below w.heap.size w w1 := Below.trans (by repeat (first | exact Below.refl _ _ | refine Below.alloc ?_ (by simp) _)) (hC.1.mono (by simp; omega))
  clear hC
  go_wp2
  go_ret
  exact ⟨rfl, hb⟩

set_option maxHeartbeats 1000000 in
theorem walk_gt (a0 a1 a2 b0 b1 b2 : Int) (w : World) (h1 : lt3 a0 a1 a2 b0 b1 b2 = false) (h2 : lt3 b0 b1 b2 a0 a1 a2 = true) (h3 : eq3 a0 a1 a2 b0 b1 b2 = false) :
    Calls Try.prog 3 #[.agg #[.int .i64 a0, .int .i64 a1, .int .i64 a2], .agg #[.int .i64 b0, .int .i64 b1, .int .i64 b2]] w fun e w' => e = .returned (.bool true) ∧ Below w.heap.size w w' := by
  go_enter Try.func3, Try.ntmps3
  go_wp2_with (fail)
  have heq := eq_arr a0 a1 a2 b0 b1 b2
  refine wp_region_quiet (C := Cls ((w.alloc (.cells #[.int .i64 a0, .int .i64 a1, .int .i64 a2] 22)).alloc (.cells #[.int .i64 b0, .int .i64 b1, .int .i64 b2] 22)) w.heap.size (w.heap.size + 1) a0 a1 a2 b0 b1 b2) (by kernel_rfl) (by kernel_rfl) (cls0 w a0 a1 a2 b0 b1 b2) ?_
  repeat (first
    | (refine wpQuiet_step (fun K hK => ?_)
       go_simp
       refine hK _ ?_
       clear hK K)
    | (refine wpQuiet_step (fun K hK => ?_)
       go_simp
       apply Exists.intro
       refine ⟨fun w1 hC => ?_, hK _ ?_⟩
       (obtain ⟨hb, c0, c1, c2, d0, d1, d2⟩ := id hC
        first
          | (go_simp; rfl)
          | (go_simp
             go_at_call 4
             exact (impl_any _ _ _ _ _ _ w1).mono fun e w'' hh => ⟨hh.1, hC.step (by simp; omega) (by simp) hh.2⟩)
          | (go_simp
             go_at_call 5
             exact (lighter_any _ _ _ _ _ _ w1).mono fun e w'' hh => ⟨hh.1, hC.step (by simp; omega) (by simp) hh.2⟩))
       clear hK K))
  refine wpQuiet_nil ?_
  intro w1 hC
  have hb : Below w.heap.size w w1 := Below.trans (by repeat (first | exact Below.refl _ _ | refine Below.alloc ?_ (by simp) _)) (hC.1.mono (by simp; omega))
  clear hC
  go_wp2
  go_ret
  exact ⟨rfl, hb⟩

set_option maxHeartbeats 1000000 in
theorem walk_eq (a0 a1 a2 b0 b1 b2 : Int) (w : World) (h1 : lt3 a0 a1 a2 b0 b1 b2 = false) (h2 : lt3 b0 b1 b2 a0 a1 a2 = false) (h3 : eq3 a0 a1 a2 b0 b1 b2 = true) :
    Calls Try.prog 3 #[.agg #[.int .i64 a0, .int .i64 a1, .int .i64 a2], .agg #[.int .i64 b0, .int .i64 b1, .int .i64 b2]] w fun e w' => e = .returned (.bool true) ∧ Below w.heap.size w w' := by
  go_enter Try.func3, Try.ntmps3
  go_wp2_with (fail)
  have heq := eq_arr a0 a1 a2 b0 b1 b2
  refine wp_region_quiet (C := Cls ((w.alloc (.cells #[.int .i64 a0, .int .i64 a1, .int .i64 a2] 22)).alloc (.cells #[.int .i64 b0, .int .i64 b1, .int .i64 b2] 22)) w.heap.size (w.heap.size + 1) a0 a1 a2 b0 b1 b2) (by kernel_rfl) (by kernel_rfl) (cls0 w a0 a1 a2 b0 b1 b2) ?_
  repeat (first
    | (refine wpQuiet_step (fun K hK => ?_)
       go_simp
       refine hK _ ?_
       clear hK K)
    | (refine wpQuiet_step (fun K hK => ?_)
       go_simp
       apply Exists.intro
       refine ⟨fun w1 hC => ?_, hK _ ?_⟩
       (obtain ⟨hb, c0, c1, c2, d0, d1, d2⟩ := id hC
        first
          | (go_simp; rfl)
          | (go_simp
             go_at_call 4
             exact (impl_any _ _ _ _ _ _ w1).mono fun e w'' hh => ⟨hh.1, hC.step (by simp; omega) (by simp) hh.2⟩)
          | (go_simp
             go_at_call 5
             exact (lighter_any _ _ _ _ _ _ w1).mono fun e w'' hh => ⟨hh.1, hC.step (by simp; omega) (by simp) hh.2⟩))
       clear hK K))
  refine wpQuiet_nil ?_
  intro w1 hC
  have hb : Below w.heap.size w w1 := Below.trans (by repeat (first | exact Below.refl _ _ | refine Below.alloc ?_ (by simp) _)) (hC.1.mono (by simp; omega))
  clear hC
  go_wp2
  go_ret
  exact ⟨rfl, hb⟩

theorem walk (a0 a1 a2 b0 b1 b2 : Int) (w : World) :
    Calls Try.prog 3 #[.agg #[.int .i64 a0, .int .i64 a1, .int .i64 a2], .agg #[.int .i64 b0, .int .i64 b1, .int .i64 b2]] w fun e w' => e = .returned (.bool true) ∧ Below w.heap.size w w' := by
  cases h1 : lt3 a0 a1 a2 b0 b1 b2
  · cases h2 : lt3 b0 b1 b2 a0 a1 a2
    · obtain ⟨rfl, rfl, rfl⟩ := lt3_eq h1 h2
      exact walk_eq _ _ _ _ _ _ w h1 h2 (by simp [eq3])
    · refine walk_gt _ _ _ _ _ _ w h1 h2 ?_
      rcases h3 : eq3 a0 a1 a2 b0 b1 b2
      · rfl
      · simp [eq3] at h3
        obtain ⟨rfl, rfl, rfl⟩ := h3
        rw [lt3_irr] at h2
        cases h2
  · refine walk_lt _ _ _ _ _ _ w h1 ?_ ?_
    · cases h2 : lt3 b0 b1 b2 a0 a1 a2
      · rfl
      · simp [lt3] at h1 h2
        omega
    · rcases h3 : eq3 a0 a1 a2 b0 b1 b2
      · rfl
      · simp [eq3] at h3
        obtain ⟨rfl, rfl, rfl⟩ := h3
        rw [lt3_irr] at h1
        cases h1
end Go.Proofs.Ytoindammaphefaa
