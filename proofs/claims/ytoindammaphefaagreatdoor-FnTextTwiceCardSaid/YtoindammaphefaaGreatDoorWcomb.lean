/- The walk of the weight of two selectors that are joined; what it is to call Specificity on a value. -/
import Derived.Test.YtoindammaphefaaGreatDoorWgt
import Derived.Test.YtoindammaphefaaGreatDoorVals
import Derived.Deep.RegionWith
import Derived.RegionTactic
/- The walks of Add, Less, Lighter and of the weights of single selectors. -/
namespace Go.Proofs.YtoindammaphefaaGreatDoor
open Go.RowKit

theorem below_drewN' {B : Nat} {a w : World} (h : Below B a w) (n : Nat) : Below B a (w.drewN n) := ⟨h.os, h.tape, h.output, h.size, h.block⟩
/-- A weight was handed back; nothing that was there has turned. -/
def WEnd (t : T3) (w : World) (e : Ending) (w' : World) : Prop := e = .returned (val3 t) ∧ Below w.heap.size w w'
set_option maxHeartbeats 1000000 in
set_option maxRecDepth 100000 in
theorem add_any (x y : T3) (n k : Nat) (hx : okT n x) (hy : okT k y) (hn : n ≤ 1000000) (hk : k ≤ 1000000) (w : World) :
    Calls Tryz.prog 128 #[val3 x, val3 y] w fun e w' => WEnd (add3 x y) w e w' := by
  obtain ⟨x1, x2, x3⟩ := x
  obtain ⟨y1, y2, y3⟩ := y
  obtain ⟨hx1, hx2, hx3, hx4, hx5, hx6⟩ := hx
  obtain ⟨hy1, hy2, hy3, hy4, hy5, hy6⟩ := hy
  simp only at hx1 hx2 hx3 hx4 hx5 hx6 hy1 hy2 hy3 hy4 hy5 hy6
  unfold val3
  have i0 : ∀ w, (Instr.index 55 (.agg #[.int .i64 y1, .int .i64 y2, .int .i64 y3]) (.int .i64 0)).run Tryz.prog w = .ok (.int .i64 y1) w := fun _ => by kernel_rfl
  have i1 : ∀ w, (Instr.index 55 (.agg #[.int .i64 y1, .int .i64 y2, .int .i64 y3]) (.int .i64 1)).run Tryz.prog w = .ok (.int .i64 y2) w := fun _ => by kernel_rfl
  have i2 : ∀ w, (Instr.index 55 (.agg #[.int .i64 y1, .int .i64 y2, .int .i64 y3]) (.int .i64 2)).run Tryz.prog w = .ok (.int .i64 y3) w := fun _ => by kernel_rfl
  go_enter Tryz.func128, Tryz.ntmps128
  go_wp2_with fail
  refine wp_loop_rounds 4 ?_
  rw [rounds_succ]
  go_wp2_with fail
  rw [rounds_succ]
  go_wp2_with fail
  rw [rounds_succ]
  go_wp2_with fail
  rw [rounds_succ]
  go_wp2_with fail
  exact bodyPost_ret (v := val3 ⟨x1 + y1, x2 + y2, x3 + y3⟩) (by simp [results, Tryz.results128, go_sem, val3]) rfl ⟨rfl, (((Below.refl _ _).alloc (Nat.le_refl _) _).alloc (by simp) _).alloc (by simp; omega) _⟩
theorem tagW (r : ByteArray) (w : World) : Calls Tryz.prog 131 #[.agg #[.string r]] w fun e w' => WEnd ⟨0, 0, 1⟩ w e w' := by
  go_enter Tryz.func131, Tryz.ntmps131
  go_wp2_with fail
  exact bodyPost_ret (v := val3 ⟨0, 0, 1⟩) (by simp [results, Tryz.results131, go_sem, val3]) rfl ⟨rfl, ((Below.refl _ _).alloc (Nat.le_refl _) _).alloc (by simp) _⟩
theorem idW (r : ByteArray) (w : World) : Calls Tryz.prog 135 #[.agg #[.string r]] w fun e w' => WEnd ⟨1, 0, 0⟩ w e w' := by
  go_enter Tryz.func135, Tryz.ntmps135
  go_wp2_with fail
  exact bodyPost_ret (v := val3 ⟨1, 0, 0⟩) (by simp [results, Tryz.results135, go_sem, val3]) rfl ⟨rfl, ((Below.refl _ _).alloc (Nat.le_refl _) _).alloc (by simp) _⟩
theorem clsW (r : ByteArray) (w : World) : Calls Tryz.prog 143 #[.agg #[.string r]] w fun e w' => WEnd ⟨0, 1, 0⟩ w e w' := by
  go_enter Tryz.func143, Tryz.ntmps143
  go_wp2_with fail
  exact bodyPost_ret (v := val3 ⟨0, 1, 0⟩) (by simp [results, Tryz.results143, go_sem, val3]) rfl ⟨rfl, ((Below.refl _ _).alloc (Nat.le_refl _) _).alloc (by simp) _⟩
theorem attrW (r r1 r2 : ByteArray) (b : Bool) (w : World) : Calls Tryz.prog 147 #[.agg #[.string r, .string r1, .string r2, .bool b]] w fun e w' => WEnd ⟨0, 1, 0⟩ w e w' := by
  go_enter Tryz.func147, Tryz.ntmps147
  go_wp2_with fail
  exact bodyPost_ret (v := val3 ⟨0, 1, 0⟩) (by simp [results, Tryz.results147, go_sem, val3]) rfl ⟨rfl, ((Below.refl _ _).alloc (Nat.le_refl _) _).alloc (by simp) _⟩
theorem absW (w : World) : Calls Tryz.prog 158 #[.agg #[]] w fun e w' => WEnd ⟨0, 1, 0⟩ w e w' := by
  go_enter Tryz.func158, Tryz.ntmps158
  go_wp2_with fail
  exact bodyPost_ret (v := val3 ⟨0, 1, 0⟩) (by simp [results, Tryz.results158, go_sem, val3]) rfl ⟨rfl, ((Below.refl _ _).alloc (Nat.le_refl _) _).alloc (by simp) _⟩

theorem lt3_0 {a0 a1 a2 b0 b1 b2 : Int} (h0 : (a0 != b0) = true) : decide (a0 < b0) = lt3 a0 a1 a2 b0 b1 b2 := by
  have h0' : a0 ≠ b0 := by simpa using h0
  simp [lt3, h0']
theorem lt3_1 {a0 a1 a2 b0 b1 b2 : Int} (h0 : (a0 != b0) = false) (h1 : (a1 != b1) = true) : decide (a1 < b1) = lt3 a0 a1 a2 b0 b1 b2 := by
  have h0' : a0 = b0 := by simpa using h0
  have h1' : a1 ≠ b1 := by simpa using h1
  simp [lt3, h0', h1']
theorem lt3_2 {a0 a1 a2 b0 b1 b2 : Int} (h0 : (a0 != b0) = false) (h1 : (a1 != b1) = false) : decide (a2 < b2) = lt3 a0 a1 a2 b0 b1 b2 := by
  have h0' : a0 = b0 := by simpa using h0
  have h1' : a1 = b1 := by simpa using h1
  simp [lt3, h0', h1']
theorem lt3_3 {a0 a1 a2 b0 b1 b2 : Int} (h0 : (a0 != b0) = false) (h1 : (a1 != b1) = false) (h2 : (a2 != b2) = false) : false = lt3 a0 a1 a2 b0 b1 b2 := by
  have h0' : a0 = b0 := by simpa using h0
  have h1' : a1 = b1 := by simpa using h1
  have h2' : a2 = b2 := by simpa using h2
  simp [lt3, h0', h1', h2']

set_option maxHeartbeats 400000 in
theorem less_any (a0 a1 a2 b0 b1 b2 : Int) (w : World) :
    Calls Tryz.prog 121 #[.agg #[.int .i64 a0, .int .i64 a1, .int .i64 a2], .agg #[.int .i64 b0, .int .i64 b1, .int .i64 b2]] w fun e w' => e = .returned (.bool (lt3 a0 a1 a2 b0 b1 b2)) ∧ Below w.heap.size w w' := by
  go_enter Tryz.func121, Tryz.ntmps121
  go_wp2
  refine wp_loop_rounds 4 ?_
  rw [rounds_succ]
  go_wp2
  go_quiet (fail)
  go_wp2
  · go_ret
    exact ⟨ret_bool (by simp [lt3]; omega), (by repeat (first | exact Below.refl _ _ | apply below_drewN' | refine Below.alloc ?_ (by simp) _))⟩
  go_quiet (fail)
  go_wp2
  · go_ret
    exact ⟨ret_bool (by simp [lt3]; omega), (by repeat (first | exact Below.refl _ _ | apply below_drewN' | refine Below.alloc ?_ (by simp) _))⟩
  rw [rounds_succ]
  go_wp2
  go_quiet (fail)
  go_wp2
  · go_ret
    exact ⟨ret_bool (by simp [lt3]; omega), (by repeat (first | exact Below.refl _ _ | apply below_drewN' | refine Below.alloc ?_ (by simp) _))⟩
  go_quiet (fail)
  go_wp2
  · go_ret
    exact ⟨ret_bool (by simp [lt3]; omega), (by repeat (first | exact Below.refl _ _ | apply below_drewN' | refine Below.alloc ?_ (by simp) _))⟩
  rw [rounds_succ]
  go_wp2
  go_quiet (fail)
  go_wp2
  · go_ret
    exact ⟨ret_bool (by simp [lt3]; omega), (by repeat (first | exact Below.refl _ _ | apply below_drewN' | refine Below.alloc ?_ (by simp) _))⟩
  go_quiet (fail)
  go_wp2
  · go_ret
    exact ⟨ret_bool (by simp [lt3]; omega), (by repeat (first | exact Below.refl _ _ | apply below_drewN' | refine Below.alloc ?_ (by simp) _))⟩
  rw [rounds_succ]
  go_wp2
  go_ret
  exact ⟨ret_bool (by simp [lt3]; omega), (by repeat (first | exact Below.refl _ _ | apply below_drewN' | refine Below.alloc ?_ (by simp) _))⟩


set_option maxHeartbeats 400000 in
theorem lighter_any (a0 a1 a2 b0 b1 b2 : Int) (w : World) :
    Calls Tryz.prog 14 #[.agg #[.int .i64 a0, .int .i64 a1, .int .i64 a2], .agg #[.int .i64 b0, .int .i64 b1, .int .i64 b2]] w fun e w' => e = .returned (.bool (lt3 a0 a1 a2 b0 b1 b2)) ∧ Below w.heap.size w w' := by
  go_enter Tryz.func14, Tryz.ntmps14
  go_wp2
  refine wp_loop_rounds 4 ?_
  rw [rounds_succ]
  go_wp2
  go_quiet (fail)
  go_wp2
  · go_quiet (fail)
    go_wp2
    go_ret
    exact ⟨ret_bool (lt3_0 ‹_›), (by repeat (first | exact Below.refl _ _ | apply below_drewN' | refine Below.alloc ?_ (by simp) _))⟩
  rw [rounds_succ]
  go_wp2
  go_quiet (fail)
  go_wp2
  · go_quiet (fail)
    go_wp2
    go_ret
    exact ⟨ret_bool (lt3_1 ‹_› ‹_›), (by repeat (first | exact Below.refl _ _ | apply below_drewN' | refine Below.alloc ?_ (by simp) _))⟩
  rw [rounds_succ]
  go_wp2
  go_quiet (fail)
  go_wp2
  · go_quiet (fail)
    go_wp2
    go_ret
    exact ⟨ret_bool (lt3_2 ‹_› ‹_›), (by repeat (first | exact Below.refl _ _ | apply below_drewN' | refine Below.alloc ?_ (by simp) _))⟩
  rw [rounds_succ]
  go_wp2
  go_ret
  exact ⟨ret_bool (lt3_3 ‹_› ‹_› ‹_›), (by repeat (first | exact Below.refl _ _ | apply below_drewN' | refine Below.alloc ?_ (by simp) _))⟩


end Go.Proofs.YtoindammaphefaaGreatDoor
namespace Go.Proofs.YtoindammaphefaaGreatDoor
open Go.RowKit

/-- In every world that is as w is in the blocks of P, Specificity of v is t. -/
def WMeth (w : World) (P : Nat → Prop) (v : Value) (t : T3) : Prop :=
  ∃ T x K u, v = .iface T x ∧ (∀ W, (method 331 T x "Specificity").run Tryz.prog W = .ok (K, u) W) ∧ (∀ W, (callFunc K #[u]).run Tryz.prog W = .ok (.enter K #[u]) W) ∧ ∀ W, Alike P w W → Calls Tryz.prog K #[u] W (WEnd t W)
theorem Alike.trans {P : Nat → Prop} {w w1 w2 : World} (h : Alike P w w1) (h' : Alike P w1 w2) : Alike P w w2 := fun b hb => (h' b hb).trans (h b hb)
theorem Alike.alloc {P : Nat → Prop} {w w1 : World} (h : Alike P w w1) (hP : ∀ b, P b → b < w1.heap.size) (o : Obj) : Alike P w (w1.alloc o) := h.trans fun b hb => heap_alloc_old _ _ (hP b hb)
theorem cell_lt_below {W w1 : World} (hb : Below W.heap.size W w1) {b o : Nat} (h : b < W.heap.size) : w1.cell? ⟨b, o, none⟩ = W.cell? ⟨b, o, none⟩ := hb.cell (p := ⟨b, o, none⟩) h
theorem Below.undrew {B : Nat} {a w : World} (h : Below B a.drew w) : Below B a w := ⟨h.os, h.tape, h.output, h.size, h.block⟩
theorem bcell {W w1 : World} (hb : Below W.heap.size W w1) : (∀ b o, b < W.heap.size → w1.cell? ⟨b, o, none⟩ = W.cell? ⟨b, o, none⟩) ∧ (∀ b o, b < W.heap.size → w1.frozen? ⟨b, o, none⟩ = W.frozen? ⟨b, o, none⟩) :=
  ⟨fun b o h => hb.cell (p := ⟨b, o, none⟩) h, fun b o h => hb.frozen (p := ⟨b, o, none⟩) h⟩
set_option maxHeartbeats 4000000 in
set_option maxRecDepth 100000 in
theorem combW (w : World) (P : Nat → Prop) (f s : Value) (j : Int) (t1 t2 : T3) (n k : Nat) (hf : WMeth w P f t1) (hs : WMeth w P s t2) (h1 : okT n t1) (h2 : okT k t2) (hn : n ≤ 1000000) (hk : k ≤ 1000000)
    (W : World) (hP : ∀ b, P b → b < W.heap.size) (hW : Alike P w W) :
    Calls Tryz.prog 126 #[.agg #[f, .int .u8 j, s]] W fun e w' => WEnd (add3 t1 t2) W e w' := by
  obtain ⟨a1, b1, d1⟩ := t1
  obtain ⟨a2, b2, d2⟩ := t2
  obtain ⟨T, x, K, u, rfl, m1, c1, q1⟩ := hf
  obtain ⟨S, y, L, v, rfl, m2, c2, q2⟩ := hs
  have HA := Lib.hid (fun W' => add_any ⟨a1, b1, d1⟩ ⟨a2, b2, d2⟩ n k h1 h2 hn hk W')
  have Q1 := Lib.hid q1
  have Q2 := Lib.hid q2
  have HPP := Lib.hid hP
  have HWW := Lib.hid hW
  clear h1 h2 q1 q2 hP hW
  go_enter Tryz.func126, Tryz.ntmps126
  go_wp2_with fail
  refine (Q1.out _ ?_).mono ?_
  · exact (HWW.out.alloc HPP.out _).alloc (fun b hb => by have := HPP.out b hb; simp; omega) _
  rintro e w1 ⟨he, hb1⟩
  have he' : e = .returned (.agg #[.int .i64 a1, .int .i64 b1, .int .i64 d1]) := he
  subst he'
  have hz1 : W.heap.size + 1 < w1.heap.size := by have := hb1.size; simp at this; omega
  have hz0 : W.heap.size < w1.heap.size := by omega
  obtain ⟨hc1, hf1⟩ := bcell hb1
  have s2 : w1.cell? ⟨W.heap.size, 2, none⟩ = some (.iface S y) := (hc1 _ 2 (by simp; omega)).trans (by go_simp)
  have r0 : w1.cell? ⟨W.heap.size + 1, 0, none⟩ = some (.int .i64 0) := (hc1 _ 0 (by simp)).trans (by go_simp)
  have r1 : w1.cell? ⟨W.heap.size + 1, 1, none⟩ = some (.int .i64 0) := (hc1 _ 1 (by simp)).trans (by go_simp)
  have r2 : w1.cell? ⟨W.heap.size + 1, 2, none⟩ = some (.int .i64 0) := (hc1 _ 2 (by simp)).trans (by go_simp)
  have g0 : w1.frozen? ⟨W.heap.size + 1, 0, none⟩ = false := (hf1 _ 0 (by simp)).trans (by go_simp)
  have g1 : w1.frozen? ⟨W.heap.size + 1, 1, none⟩ = false := (hf1 _ 1 (by simp)).trans (by go_simp)
  have g2 : w1.frozen? ⟨W.heap.size + 1, 2, none⟩ = false := (hf1 _ 2 (by simp)).trans (by go_simp)
  have HB1 := Lib.hid hb1
  clear he hb1 hc1 hf1
  have hbw : Below W.heap.size W w1 := (((Below.refl _ _).alloc (Nat.le_refl _) _).alloc (by simp) _).trans (HB1.out.mono (by simp; omega))
  have hal : Alike P w (w1.alloc (.cells #[.int .i64 a1, .int .i64 b1, .int .i64 d1] 55)) := (HWW.out.trans (Alike.below hbw HPP.out)).alloc (fun b hb => by have := HPP.out b hb; omega) _
  have HBW := Lib.hid hbw
  clear hbw
  have HAL := Lib.hid hal
  have HO := Lib.hid (fun (w2 : World) (o : Nat) (h : Below (w1.heap.size + 1) (w1.alloc (.cells #[.int .i64 a1, .int .i64 b1, .int .i64 d1] 55)) w2) => h.cell (p := ⟨w1.heap.size, o, none⟩) (Nat.lt_succ_self _))
  have HF := Lib.hid (fun (w2 : World) (o : Nat) (h : Below (w1.heap.size + 1) (w1.alloc (.cells #[.int .i64 a1, .int .i64 b1, .int .i64 d1] 55)) w2) => h.frozen (p := ⟨w1.heap.size, o, none⟩) (Nat.lt_succ_self _))
  have ht : ∀ w3 : World, Below (w1.heap.size + 1) (w1.alloc (.cells #[.int .i64 a1, .int .i64 b1, .int .i64 d1] 55)) w3 → ∀ o, w3.cell? ⟨W.heap.size + 1, o, none⟩ = w1.cell? ⟨W.heap.size + 1, o, none⟩ ∧ w3.frozen? ⟨W.heap.size + 1, o, none⟩ = w1.frozen? ⟨W.heap.size + 1, o, none⟩ := fun w3 h o =>
    ⟨(h.cell (p := ⟨W.heap.size + 1, o, none⟩) (by show W.heap.size + 1 < w1.heap.size + 1; omega)).trans (World.cell?_of_block (heap_alloc_old w1 _ hz1)),
      (h.frozen (p := ⟨W.heap.size + 1, o, none⟩) (by show W.heap.size + 1 < w1.heap.size + 1; omega)).trans (World.frozen?_of_block (heap_alloc_old w1 _ hz1))⟩
  have HT := Lib.hid ht
  clear hal ht
  go_wp2_with fail
  go_region_with (first
    | (go_at_call 128
       refine (HA.out _).mono ?_
       rintro e w3 ⟨he, hb3⟩
       have he' : e = .returned (.agg #[.int .i64 (a1 + a2), .int .i64 (b1 + b2), .int .i64 (d1 + d2)]) := he
       subst he'
       have hb3' : Below (w1.heap.size + 1) (w1.alloc (.cells #[.int .i64 a1, .int .i64 b1, .int .i64 d1] 55)) w3 := hb2'.trans (hb3.mono (by have := hb2'.size; simp at this; omega))
       have y0 : w3.cell? ⟨w1.heap.size, 0, none⟩ = some (.int .i64 a1) := (HO.out _ 0 hb3').trans (by go_simp)
       have y1 : w3.cell? ⟨w1.heap.size, 1, none⟩ = some (.int .i64 b1) := (HO.out _ 1 hb3').trans (by go_simp)
       have y2 : w3.cell? ⟨w1.heap.size, 2, none⟩ = some (.int .i64 d1) := (HO.out _ 2 hb3').trans (by go_simp)
       have z0 : w3.frozen? ⟨w1.heap.size, 0, none⟩ = false := (HF.out _ 0 hb3').trans (by go_simp)
       have z1 : w3.frozen? ⟨w1.heap.size, 1, none⟩ = false := (HF.out _ 1 hb3').trans (by go_simp)
       have z2 : w3.frozen? ⟨w1.heap.size, 2, none⟩ = false := (HF.out _ 2 hb3').trans (by go_simp))
    | (refine (Q2.out _ (by exact HAL.out)).mono ?_
       rintro e w2 ⟨he, hb2⟩
       have he' : e = .returned (.agg #[.int .i64 a2, .int .i64 b2, .int .i64 d2]) := he
       subst he'
       have hb2' : Below (w1.heap.size + 1) (w1.alloc (.cells #[.int .i64 a1, .int .i64 b1, .int .i64 d1] 55)) w2 := Below.undrew (hb2.mono (by simp))
       have x0 : w2.cell? ⟨w1.heap.size, 0, none⟩ = some (.int .i64 a1) := (HO.out _ 0 hb2').trans (by go_simp)
       have x1 : w2.cell? ⟨w1.heap.size, 1, none⟩ = some (.int .i64 b1) := (HO.out _ 1 hb2').trans (by go_simp)
       have x2 : w2.cell? ⟨w1.heap.size, 2, none⟩ = some (.int .i64 d1) := (HO.out _ 2 hb2').trans (by go_simp)))
  all_goals
    have l0 := (HT.out _ hb3' 0).1.trans r0
    have l1 := (HT.out _ hb3' 1).1.trans r1
    have l2 := (HT.out _ hb3' 2).1.trans r2
    have k0 := (HT.out _ hb3' 0).2.trans g0
    have k1 := (HT.out _ hb3' 1).2.trans g1
    have k2 := (HT.out _ hb3' 2).2.trans g2
    have hz3 : w1.heap.size < w3.heap.size := by have := hb3'.size; simp at this; omega
    have HB3 := Lib.hid hb3'
    clear hb2 hb2' hb3 hb3' he
    go_wp2_with fail
    refine bodyPost_ret (v := val3 ⟨a1 + a2, b1 + b2, d1 + d2⟩) ?_ rfl ⟨rfl, ?_⟩
    · simp [results, Tryz.results126, go_sem, val3, l0, l1, l2]
    · have hb : Below W.heap.size W w3 := (HBW.out.alloc (by omega) _).trans (HB3.out.mono (by omega))
      exact (((((hb.setCell (by show W.heap.size ≤ w1.heap.size; omega) _).setCell (by show W.heap.size ≤ w1.heap.size; omega) _).setCell (by show W.heap.size ≤ w1.heap.size; omega) _).setCell (by show W.heap.size ≤ W.heap.size + 1; omega) _).setCell (by show W.heap.size ≤ W.heap.size + 1; omega) _).setCell (by show W.heap.size ≤ W.heap.size + 1; omega) _
end Go.Proofs.YtoindammaphefaaGreatDoor
