/- The walk of the thin package's Specificity. -/
import Derived.Test.YtoindammaphefaaGreatDoorWcomb
import Derived.Test.YtoindammaphefaaGreatDoorSel0
import Derived.Test.YtoindammaphefaaGreatDoorParse
/- The walk of the weight of simple selectors of one element. -/
namespace Go.Proofs.YtoindammaphefaaGreatDoor
open Go.RowKit

/-- A row of values whose weights are known. -/
def RowW {α : Type} (f : α → T3) (w : World) (P : Nat → Prop) (v : Value) (l : List α) : Prop := Row 1 (fun fc s => ∃ x, fc 0 = some x ∧ WMeth w P x (f s)) w P v l
theorem set3 {W : World} {b : Nat} {a0 a1 a2 b0 b1 b2 : Value} {T : TypeId} (h : W.heap[b]? = some (.cells #[a0, a1, a2] T (0, 0))) :
    (((W.setCell ⟨b, 0, none⟩ b0).setCell ⟨b, 1, none⟩ b1).setCell ⟨b, 2, none⟩ b2).heap[b]? = some (.cells #[b0, b1, b2] T (0, 0)) :=
  heap_set_same (heap_set_same (heap_set_same h 0 b0) 1 b1) 2 b2
theorem RowW.at {α : Type} {f : α → T3} {w : World} {P : Nat → Prop} {v : Value} {l : List α} (h : RowW f w P v l) {k : Nat} {s : α} (hs : l[k]? = some s) :
    ∃ ad c x, v = .slice (some ad) l.length c ∧ P ad.block ∧ w.cell? (ad.add k) = some x ∧ WMeth w P x (f s) := by
  obtain ⟨A, c, hv, _, hk⟩ := h
  obtain ⟨ad, rfl, hP, x, hx, hm⟩ := hk k s hs
  exact ⟨ad, c, x, hv, hP, by simpa using hx, hm⟩
set_option maxHeartbeats 8000000 in
set_option maxRecDepth 100000 in
theorem compW {α : Type} (f : α → T3) (w : World) (P : Nat → Prop) (v : Value) (l : List α) (n : Nat) (hr : RowW f w P v l) (hn : ∀ s ∈ l, okT n (f s)) (hl : l.length ≤ 4) (hn1 : n ≤ 200000)
    (W : World) (hP : ∀ b, P b → b < W.heap.size) (hW : Alike P w W) :
    Calls Tryz.prog 151 #[.agg #[v, .string ByteArray.empty]] W fun e w' => WEnd (sum3 f l) W e w' := by
  have HRow := Lib.hid hr
  have HN := Lib.hid hn
  have HPP := Lib.hid hP
  have HWW := Lib.hid hW
  obtain ⟨A, c, rfl, hr1, hr2⟩ := hr
  clear hn hP hW hr1 hr2
  go_enter Tryz.func151, Tryz.ntmps151
  go_wp2_with fail
  go_loopw [9] (fun v9 wr' => ∃ (k : Nat) (a b d : Int), v9 = .int .i64 k ∧ k ≤ l.length ∧ Below (W.heap.size + 2) ((W.alloc (.cells #[.slice A l.length c, .string ByteArray.empty] 114)).alloc (.cells #[.int .i64 0, .int .i64 0, .int .i64 0] 55)) wr'
      ∧ wr'.heap[W.heap.size + 2]? = some (.cells #[.int .i64 a, .int .i64 b, .int .i64 d] 55 (0, 0)) ∧ Hid (sum3 f (l.take k) = ⟨a, b, d⟩))
    (fun v9 _ => l.length - (intOf v9).toNat)
  case atStart => 
    refine ⟨0, 0, 0, 0, rfl, Nat.zero_le _, (Below.refl _ _).alloc (by simp) _, ?_, rfl⟩
    have := heap_alloc_new ((W.alloc (.cells #[.slice A l.length c, .string ByteArray.empty] 114)).alloc (.cells #[.int .i64 0, .int .i64 0, .int .i64 0] 55)) (.cells #[.int .i64 0, .int .i64 0, .int .i64 0] 55)
    simpa using this
  case round =>
    obtain ⟨k, a, b, d, rfl, hk, hb, hx, HS⟩ := hrel
    have hgx := blk_lt hx
    have hx0 : wr.heap[W.heap.size]? = some (.cells #[.slice A l.length c, .string ByteArray.empty] 114 (0, 0)) :=
      (hb.block _ (by omega)).trans ((heap_alloc_old _ _ (by simp)).trans (heap_alloc_new W _))
    have hx1 : wr.heap[W.heap.size + 1]? = some (.cells #[.int .i64 0, .int .i64 0, .int .i64 0] 55 (0, 0)) := by
      have h := heap_alloc_new (W.alloc (.cells #[.slice A l.length c, .string ByteArray.empty] 114)) (.cells #[.int .i64 0, .int .i64 0, .int .i64 0] 55)
      exact (hb.block _ (by omega)).trans (by simpa using h)
    have z0 : wr.cell? ⟨W.heap.size + 2, 0, none⟩ = some (.int .i64 a) := by rw [cell_of_row _ _ _ _ _ _ hx]; rfl
    have z1 : wr.cell? ⟨W.heap.size + 2, 1, none⟩ = some (.int .i64 b) := by rw [cell_of_row _ _ _ _ _ _ hx]; rfl
    have z2 : wr.cell? ⟨W.heap.size + 2, 2, none⟩ = some (.int .i64 d) := by rw [cell_of_row _ _ _ _ _ _ hx]; rfl
    rcases hs : l[k]? with _ | s
    · have hkl : k = l.length := by rw [List.getElem?_eq_none_iff] at hs; omega
      have hlt : ¬ ((k : Int) < (l.length : Int)) := by omega
      have p1 : wr.cell? ⟨W.heap.size, 1, none⟩ = some (.string ByteArray.empty) := by rw [cell_of_row _ _ _ _ _ _ hx0]; rfl
      have r0 : wr.cell? ⟨W.heap.size + 1, 0, none⟩ = some (.int .i64 0) := by rw [cell_of_row _ _ _ _ _ _ hx1]; rfl
      have r1 : wr.cell? ⟨W.heap.size + 1, 1, none⟩ = some (.int .i64 0) := by rw [cell_of_row _ _ _ _ _ _ hx1]; rfl
      have r2 : wr.cell? ⟨W.heap.size + 1, 2, none⟩ = some (.int .i64 0) := by rw [cell_of_row _ _ _ _ _ _ hx1]; rfl
      have g0 := blk_frozen hx1 0
      have g1 := blk_frozen hx1 1
      have g2 := blk_frozen hx1 2
      have hbw : Below W.heap.size W wr := (((Below.refl _ _).alloc (Nat.le_refl _) _).alloc (by simp) _).trans (hb.mono (by omega))
      have HBW := Lib.hid hbw
      have hfin : sum3 f l = ⟨a, b, d⟩ := by rw [← HS.out, hkl, List.take_length]
      have HFIN := Lib.hid hfin
      clear hs hb hx hx0 hx1 hbw hfin
      go_wp2_with fail
      rw [HFIN.out]
      refine bodyPost_ret (v := val3 ⟨a, b, d⟩) (by simp [results, Tryz.results151, go_sem, val3, r0, r1, r2]) rfl ⟨rfl, ?_⟩
      exact ((HBW.out.setCell (by show W.heap.size ≤ W.heap.size + 1; omega) _).setCell (by show W.heap.size ≤ W.heap.size + 1; omega) _).setCell (by show W.heap.size ≤ W.heap.size + 1; omega) _
    · have hkl : k < l.length := (List.getElem?_eq_some_iff.1 hs).1
      have hlt : (k : Int) < (l.length : Int) := by omega
      obtain ⟨ad, c', x, hv, hPa, hxc, T, y, K, u, rfl, m1, c1, q1⟩ := HRow.out.at hs
      injection hv with hA _ hcc
      subst hA hcc
      have hbw : Below W.heap.size W wr := (((Below.refl _ _).alloc (Nat.le_refl _) _).alloc (by simp) _).trans (hb.mono (by omega))
      have hal : Alike P w wr := HWW.out.trans (Alike.below hbw HPP.out)
      have e0 : wr.cell? (ad.add k) = some (.iface T y) := (hal.cell (by rw [add_lt]; exact hPa)).trans hxc
      have Q1 := Lib.hid q1
      have HAL := Lib.hid hal
      have hsm : s ∈ l := List.mem_of_getElem? hs
      have hok1 : okT (l.length * n) (sum3 f (l.take k)) := (sum3_ok (n := n) fun x hx => HN.out x (List.mem_of_mem_take hx)).mono (Nat.mul_le_mul_right _ (by rw [List.length_take]; omega))
      rw [HS.out] at hok1
      have hok2 := HN.out s hsm
      obtain ⟨s1, s2, s3, hfs⟩ : ∃ s1 s2 s3, f s = ⟨s1, s2, s3⟩ := ⟨_, _, _, rfl⟩
      rw [hfs] at hok2
      have HA := Lib.hid (fun W' => add_any ⟨a, b, d⟩ ⟨s1, s2, s3⟩ (l.length * n) n hok1 hok2 (by have := Nat.mul_le_mul hl hn1; omega) (by omega) W')
      have hsum := sum3_take f hs
      rw [HS.out, hfs] at hsum
      have HSUM := Lib.hid hsum
      have HX := Lib.hid hx
      have HB := Lib.hid hb
      have HFS := Lib.hid hfs
      clear hs hxc hPa q1 hal hx hx0 hx1 hb hbw hok1 hok2 hsum hsm hfs
      go_wp2_with fail
      rename_i K0 hK0 hTrue
      have CUT : ∀ (t13 t14 t15 t16 : Value) (w3 : World), wr.heap.size ≤ w3.heap.size → Below wr.heap.size wr w3 → K0 { tmps := #[.agg #[.slice (some ad) l.length c, .string ByteArray.empty], .pointer (some ⟨W.heap.size, 0, none⟩), .pointer (some ⟨W.heap.size + 1, 0, none⟩), .pointer (some ⟨W.heap.size + 1 + 1, 0, none⟩), undef, .iface T y, .pointer (some ⟨W.heap.size, 0, none⟩), .slice (some ad) l.length c, .int .i64 l.length, .int .i64 k, .bool true, .pointer (some (ad.add k)), .iface T y, t13, t14, t15, t16, u17, undef, undef, undef, undef, undef, undef, undef], defers := [] } (((w3.setCell ⟨W.heap.size + 1 + 1, 0, none⟩ (.int .i64 (a + s1))).setCell ⟨W.heap.size + 1 + 1, 1, none⟩ (.int .i64 (b + s2))).setCell ⟨W.heap.size + 1 + 1, 2, none⟩ (.int .i64 (d + s3))) := by
        intro t13 t14 t15 t16 w3 hs3 hb3
        apply hK0
        clear hK0 hTrue
        have hx3 : w3.heap[W.heap.size + 2]? = some (.cells #[.int .i64 a, .int .i64 b, .int .i64 d] 55 (0, 0)) := (hb3.block _ hgx).trans HX.out
        have H3 := Lib.hid (set3 (b0 := .int .i64 (a + s1)) (b1 := .int .i64 (b + s2)) (b2 := .int .i64 (d + s3)) hx3)
        have HB3 := Lib.hid ((((HB.out.trans (hb3.mono (by omega))).setCell (p := ⟨W.heap.size + 2, 0, none⟩) (Nat.le_refl _) (.int .i64 (a + s1))).setCell (p := ⟨W.heap.size + 2, 1, none⟩) (Nat.le_refl _) (.int .i64 (b + s2))).setCell (p := ⟨W.heap.size + 2, 2, none⟩) (Nat.le_refl _) (.int .i64 (d + s3)))
        clear hb3 hx3
        go_wp2_with fail
        go_roundw
        case rel => exact ⟨k + 1, a + s1, b + s2, d + s3, by go_num, by omega, HB3.out, H3.out, HSUM.out⟩
        case measure => simp [intOf]; omega
      clear hK0 hTrue
      have HO := Lib.hid (fun (w2 : World) (h : Below wr.heap.size wr w2) => (h.block _ hgx).trans HX.out)
      clear hgx
      go_region_with (first
        | (go_at_call 128
           refine (HA.out _).mono ?_
           rintro e w3 ⟨he, hb3⟩
           have he' : e = .returned (.agg #[.int .i64 (a + s1), .int .i64 (b + s2), .int .i64 (d + s3)]) := he
           subst he'
           have hb3' : Below wr.heap.size wr w3 := hb2'.trans (hb3.mono hb2'.size)
           have hx3 := HO.out _ hb3'
           have hz3 := blk_lt hx3
           have y0 : w3.cell? ⟨W.heap.size + 2, 0, none⟩ = some (.int .i64 a) := by rw [cell_of_row _ _ _ _ _ _ hx3]; rfl
           have y1 : w3.cell? ⟨W.heap.size + 2, 1, none⟩ = some (.int .i64 b) := by rw [cell_of_row _ _ _ _ _ _ hx3]; rfl
           have y2 : w3.cell? ⟨W.heap.size + 2, 2, none⟩ = some (.int .i64 d) := by rw [cell_of_row _ _ _ _ _ _ hx3]; rfl
           have v0 := blk_frozen hx3 0
           have v1 := blk_frozen hx3 1
           have v2 := blk_frozen hx3 2
           have HB3 := Lib.hid hb3'
           clear hx3 hb3 hb3' he)
        | (refine (Q1.out _ (by exact HAL.out)).mono ?_
           rintro e w2 ⟨he, hb2⟩
           rw [HFS.out] at he
           have he' : e = .returned (.agg #[.int .i64 s1, .int .i64 s2, .int .i64 s3]) := he
           subst he'
           have hb2' : Below wr.heap.size wr w2 := Below.undrew hb2
           have hx2 := HO.out _ hb2'
           have x0 : w2.cell? ⟨W.heap.size + 2, 0, none⟩ = some (.int .i64 a) := by rw [cell_of_row _ _ _ _ _ _ hx2]; rfl
           have x1 : w2.cell? ⟨W.heap.size + 2, 1, none⟩ = some (.int .i64 b) := by rw [cell_of_row _ _ _ _ _ _ hx2]; rfl
           have x2 : w2.cell? ⟨W.heap.size + 2, 2, none⟩ = some (.int .i64 d) := by rw [cell_of_row _ _ _ _ _ _ hx2]; rfl
           clear hx2 hb2 he))
      all_goals exact CUT _ _ _ _ _ HB3.out.size HB3.out
end Go.Proofs.YtoindammaphefaaGreatDoor
/- The walk of the weight of a pseudo-class with selectors: the greatest of them. -/
namespace Go.Proofs.YtoindammaphefaaGreatDoor
open Go.RowKit

set_option maxHeartbeats 8000000 in
set_option maxRecDepth 100000 in
theorem relW {α : Type} (f : α → T3) (w : World) (P : Nat → Prop) (v : Value) (l : List α) (nm : ByteArray) (hr : RowW f w P v l) (hl : l.length ≤ 3)
    (W : World) (hP : ∀ b, P b → b < W.heap.size) (hW : Alike P w W) :
    Calls Tryz.prog 155 #[.agg #[.string nm, v]] W fun e w' => WEnd (maxL f l) W e w' := by
  have HRow := Lib.hid hr
  have HPP := Lib.hid hP
  have HWW := Lib.hid hW
  obtain ⟨A, c, rfl, hr1, hr2⟩ := hr
  clear hP hW hr1 hr2
  go_enter Tryz.func155, Tryz.ntmps155
  go_wp2_with fail
  go_loopw [10] (fun v9 wr' => ∃ (k : Nat) (a b d : Int), v9 = .int .i64 k ∧ k ≤ l.length ∧ Below (W.heap.size + 2) ((W.alloc (.cells #[.string nm, .slice A l.length c] 121)).alloc (.cells #[.int .i64 0, .int .i64 0, .int .i64 0] 55)) wr'
      ∧ wr'.heap[W.heap.size + 2]? = some (.cells #[.int .i64 a, .int .i64 b, .int .i64 d] 55 (0, 0)) ∧ Hid (maxL f (l.take k) = ⟨a, b, d⟩))
    (fun v9 _ => l.length - (intOf v9).toNat)
  case atStart => 
    refine ⟨0, 0, 0, 0, rfl, Nat.zero_le _, (Below.refl _ _).alloc (by simp) _, ?_, rfl⟩
    have := heap_alloc_new ((W.alloc (.cells #[.string nm, .slice A l.length c] 121)).alloc (.cells #[.int .i64 0, .int .i64 0, .int .i64 0] 55)) (.cells #[.int .i64 0, .int .i64 0, .int .i64 0] 55)
    simpa using this
  case round =>
    obtain ⟨k, a, b, d, rfl, hk, hb, hx, HS⟩ := hrel
    have hgx := blk_lt hx
    have hx1 : wr.heap[W.heap.size + 1]? = some (.cells #[.int .i64 0, .int .i64 0, .int .i64 0] 55 (0, 0)) := by
      have h := heap_alloc_new (W.alloc (.cells #[.string nm, .slice A l.length c] 121)) (.cells #[.int .i64 0, .int .i64 0, .int .i64 0] 55)
      exact (hb.block _ (by omega)).trans (by simpa using h)
    have z0 : wr.cell? ⟨W.heap.size + 2, 0, none⟩ = some (.int .i64 a) := by rw [cell_of_row _ _ _ _ _ _ hx]; rfl
    have z1 : wr.cell? ⟨W.heap.size + 2, 1, none⟩ = some (.int .i64 b) := by rw [cell_of_row _ _ _ _ _ _ hx]; rfl
    have z2 : wr.cell? ⟨W.heap.size + 2, 2, none⟩ = some (.int .i64 d) := by rw [cell_of_row _ _ _ _ _ _ hx]; rfl
    rcases hs : l[k]? with _ | s
    · have hkl : k = l.length := by rw [List.getElem?_eq_none_iff] at hs; omega
      have hlt : ¬ ((k : Int) < (l.length : Int)) := by omega
      have r0 : wr.cell? ⟨W.heap.size + 1, 0, none⟩ = some (.int .i64 0) := by rw [cell_of_row _ _ _ _ _ _ hx1]; rfl
      have r1 : wr.cell? ⟨W.heap.size + 1, 1, none⟩ = some (.int .i64 0) := by rw [cell_of_row _ _ _ _ _ _ hx1]; rfl
      have r2 : wr.cell? ⟨W.heap.size + 1, 2, none⟩ = some (.int .i64 0) := by rw [cell_of_row _ _ _ _ _ _ hx1]; rfl
      have g0 := blk_frozen hx1 0
      have g1 := blk_frozen hx1 1
      have g2 := blk_frozen hx1 2
      have hbw : Below W.heap.size W wr := (((Below.refl _ _).alloc (Nat.le_refl _) _).alloc (by simp) _).trans (hb.mono (by omega))
      have HBW := Lib.hid hbw
      have hfin : maxL f l = ⟨a, b, d⟩ := by rw [← HS.out, hkl, List.take_length]
      have HFIN := Lib.hid hfin
      clear hs hb hx hx1 hbw hfin
      go_wp2_with fail
      rw [HFIN.out]
      refine bodyPost_ret (v := val3 ⟨a, b, d⟩) (by simp [results, Tryz.results155, go_sem, val3, r0, r1, r2]) rfl ⟨rfl, ?_⟩
      exact ((HBW.out.setCell (by show W.heap.size ≤ W.heap.size + 1; omega) _).setCell (by show W.heap.size ≤ W.heap.size + 1; omega) _).setCell (by show W.heap.size ≤ W.heap.size + 1; omega) _
    · have hkl : k < l.length := (List.getElem?_eq_some_iff.1 hs).1
      have hlt : (k : Int) < (l.length : Int) := by omega
      obtain ⟨ad, c', x, hv, hPa, hxc, T, y, K, u, rfl, m1, c1, q1⟩ := HRow.out.at hs
      injection hv with hA _ hcc
      subst hA hcc
      have hbw : Below W.heap.size W wr := (((Below.refl _ _).alloc (Nat.le_refl _) _).alloc (by simp) _).trans (hb.mono (by omega))
      have hal : Alike P w wr := HWW.out.trans (Alike.below hbw HPP.out)
      have e0 : wr.cell? (ad.add k) = some (.iface T y) := (hal.cell (by rw [add_lt]; exact hPa)).trans hxc
      obtain ⟨s1, s2, s3, hfs⟩ : ∃ s1 s2 s3, f s = ⟨s1, s2, s3⟩ := ⟨_, _, _, rfl⟩
      have hmax := maxL_take f hs
      rw [HS.out, hfs] at hmax
      rw [hfs] at q1
      have Q1 := Lib.hid q1
      have HAL := Lib.hid hal
      have HX := Lib.hid hx
      have HB := Lib.hid hb
      have HMAX := Lib.hid hmax
      clear hs hxc hPa q1 hal hx hx1 hb hbw hfs hmax
      go_wp2_with fail
      refine (Q1.out _ HAL.out).mono ?_
      rintro e w2 ⟨he, hb2⟩
      have he' : e = .returned (.agg #[.int .i64 s1, .int .i64 s2, .int .i64 s3]) := he
      subst he'
      have hx2 := (hb2.block _ hgx).trans HX.out
      have hgx2 := blk_lt hx2
      have y0 : w2.cell? ⟨W.heap.size + 2, 0, none⟩ = some (.int .i64 a) := by rw [cell_of_row _ _ _ _ _ _ hx2]; rfl
      have y1 : w2.cell? ⟨W.heap.size + 2, 1, none⟩ = some (.int .i64 b) := by rw [cell_of_row _ _ _ _ _ _ hx2]; rfl
      have y2 : w2.cell? ⟨W.heap.size + 2, 2, none⟩ = some (.int .i64 d) := by rw [cell_of_row _ _ _ _ _ _ hx2]; rfl
      have LS := Lib.hid (fun W' => less_any a b d s1 s2 s3 W')
      have HX2 := Lib.hid hx2
      have HB2 := Lib.hid (HB.out.trans (hb2.mono (by omega)))
      clear hx2 hb2 he
      go_wp2_with fail
      refine (LS.out _).mono ?_
      rintro e w3 ⟨rfl, hb3⟩
      have hz3 : w2.heap.size < w3.heap.size := by have := hb3.size; simp at this; omega
      have hn3 : w3.heap[w2.heap.size]? = some (.cells #[.int .i64 s1, .int .i64 s2, .int .i64 s3] 55 (0, 0)) := (hb3.block _ (by simp)).trans (heap_alloc_new w2 _)
      have hx3 : w3.heap[W.heap.size + 2]? = some (.cells #[.int .i64 a, .int .i64 b, .int .i64 d] 55 (0, 0)) := (hb3.block _ (by simp; omega)).trans ((heap_alloc_old _ _ hgx2).trans HX2.out)
      have hb3' := (HB2.out.alloc (by omega) (.cells #[.int .i64 s1, .int .i64 s2, .int .i64 s3] 55)).trans (hb3.mono (by simp; omega))
      have n0 : w3.cell? ⟨w2.heap.size, 0, none⟩ = some (.int .i64 s1) := by rw [cell_of_row _ _ _ _ _ _ hn3]; rfl
      have n1 : w3.cell? ⟨w2.heap.size, 1, none⟩ = some (.int .i64 s2) := by rw [cell_of_row _ _ _ _ _ _ hn3]; rfl
      have n2 : w3.cell? ⟨w2.heap.size, 2, none⟩ = some (.int .i64 s3) := by rw [cell_of_row _ _ _ _ _ _ hn3]; rfl
      have u0 : w3.cell? ⟨W.heap.size + 2, 0, none⟩ = some (.int .i64 a) := by rw [cell_of_row _ _ _ _ _ _ hx3]; rfl
      have u1 : w3.cell? ⟨W.heap.size + 2, 1, none⟩ = some (.int .i64 b) := by rw [cell_of_row _ _ _ _ _ _ hx3]; rfl
      have u2 : w3.cell? ⟨W.heap.size + 2, 2, none⟩ = some (.int .i64 d) := by rw [cell_of_row _ _ _ _ _ _ hx3]; rfl
      have v0 := blk_frozen hx3 0
      have v1 := blk_frozen hx3 1
      have v2 := blk_frozen hx3 2
      rcases hlt3 : lt3 a b d s1 s2 s3 with _ | _
      · have hm : maxL f (l.take (k + 1)) = ⟨a, b, d⟩ := by rw [HMAX.out, max3, if_neg (by show ¬ ltT _ _ = true; unfold ltT; rw [hlt3]; decide)]
        have HM := Lib.hid hm
        have HX3 := Lib.hid hx3
        have HB3 := Lib.hid hb3'
        clear hm hx3 hb3 hb3' hn3 hlt3
        go_wp2_with fail
        go_roundw
        case rel => exact ⟨k + 1, a, b, d, by go_num, by omega, HB3.out, HX3.out, HM.out⟩
        case measure => simp [intOf]; omega
      · have hm : maxL f (l.take (k + 1)) = ⟨s1, s2, s3⟩ := by rw [HMAX.out, max3, if_pos (by show ltT _ _ = true; unfold ltT; rw [hlt3])]
        have HM := Lib.hid hm
        have HX3 := Lib.hid (set3 (b0 := .int .i64 s1) (b1 := .int .i64 s2) (b2 := .int .i64 s3) hx3)
        have HB3 := Lib.hid (((hb3'.setCell (p := ⟨W.heap.size + 2, 0, none⟩) (Nat.le_refl _) (.int .i64 s1)).setCell (p := ⟨W.heap.size + 2, 1, none⟩) (Nat.le_refl _) (.int .i64 s2)).setCell (p := ⟨W.heap.size + 2, 2, none⟩) (Nat.le_refl _) (.int .i64 s3))
        clear hm hx3 hb3 hb3' hn3 hlt3
        go_wp2_with fail
        go_roundw
        case rel => exact ⟨k + 1, s1, s2, s3, by go_num, by omega, HB3.out, HX3.out, HM.out⟩
        case measure => simp [intOf]; omega
end Go.Proofs.YtoindammaphefaaGreatDoor
/- The weight of whatever the parser hands back: Specificity answers what the reference's Weight says. -/
namespace Go.Proofs.YtoindammaphefaaGreatDoor
open Go.RowKit

theorem Alike.lt {P : Nat → Prop} {w W : World} (h : Alike P w W) (hP : ∀ b, P b → b < w.heap.size) (b : Nat) (hb : P b) : b < W.heap.size := by
  have h1 := h b hb
  rw [Array.getElem?_eq_getElem (hP b hb)] at h1
  exact (Array.getElem?_eq_some_iff.1 h1).1
theorem meth_tag (r : ByteArray) (W : World) : (method 331 96 (.agg #[.string r]) "Specificity").run Tryz.prog W = .ok (131, .agg #[.string r]) W := by kernel_rfl
theorem meth_id (r : ByteArray) (W : World) : (method 331 100 (.agg #[.string r]) "Specificity").run Tryz.prog W = .ok (135, .agg #[.string r]) W := by kernel_rfl
theorem meth_cls (r : ByteArray) (W : World) : (method 331 104 (.agg #[.string r]) "Specificity").run Tryz.prog W = .ok (143, .agg #[.string r]) W := by kernel_rfl
theorem meth_attr (r r1 r2 : ByteArray) (b : Bool) (W : World) : (method 331 108 (.agg #[.string r, .string r1, .string r2, .bool b]) "Specificity").run Tryz.prog W = .ok (147, .agg #[.string r, .string r1, .string r2, .bool b]) W := by kernel_rfl
theorem meth_nth (a b : Int) (l o : Bool) (W : World) : (method 331 129 (.agg #[.int .i64 a, .int .i64 b, .bool l, .bool o]) "Specificity").run Tryz.prog W = .ok (158, .agg #[]) W := by kernel_rfl
theorem meth_empty (W : World) : (method 331 134 (.agg #[]) "Specificity").run Tryz.prog W = .ok (158, .agg #[]) W := by kernel_rfl
theorem meth_root (W : World) : (method 331 135 (.agg #[]) "Specificity").run Tryz.prog W = .ok (158, .agg #[]) W := by kernel_rfl
theorem meth_rel (r : ByteArray) (v : Value) (W : World) : (method 331 121 (.agg #[.string r, v]) "Specificity").run Tryz.prog W = .ok (155, .agg #[.string r, v]) W := by kernel_rfl
theorem meth_comp (v : Value) (r : ByteArray) (W : World) : (method 331 114 (.agg #[v, .string r]) "Specificity").run Tryz.prog W = .ok (151, .agg #[v, .string r]) W := by kernel_rfl
theorem meth_comb (f s : Value) (j : Int) (W : World) : (method 331 91 (.agg #[f, .int .u8 j, s]) "Specificity").run Tryz.prog W = .ok (126, .agg #[f, .int .u8 j, s]) W := by kernel_rfl
theorem call_tag (u : Value) (W : World) : (callFunc 131 #[u]).run Tryz.prog W = .ok (.enter 131 #[u]) W := by kernel_rfl
theorem call_id (u : Value) (W : World) : (callFunc 135 #[u]).run Tryz.prog W = .ok (.enter 135 #[u]) W := by kernel_rfl
theorem call_cls (u : Value) (W : World) : (callFunc 143 #[u]).run Tryz.prog W = .ok (.enter 143 #[u]) W := by kernel_rfl
theorem call_attr (u : Value) (W : World) : (callFunc 147 #[u]).run Tryz.prog W = .ok (.enter 147 #[u]) W := by kernel_rfl
theorem call_abs (u : Value) (W : World) : (callFunc 158 #[u]).run Tryz.prog W = .ok (.enter 158 #[u]) W := by kernel_rfl
theorem call_rel (u : Value) (W : World) : (callFunc 155 #[u]).run Tryz.prog W = .ok (.enter 155 #[u]) W := by kernel_rfl
theorem call_comp (u : Value) (W : World) : (callFunc 151 #[u]).run Tryz.prog W = .ok (.enter 151 #[u]) W := by kernel_rfl
theorem call_comb (u : Value) (W : World) : (callFunc 126 #[u]).run Tryz.prog W = .ok (.enter 126 #[u]) W := by kernel_rfl

/-- The weight of a pseudo-class with the selectors v. -/
def RelW (w : World) (P : Nat → Prop) (d : Nat) : Prop := ∀ v l, GrpV w P d v l → grpOK d l → ∀ (nm : ByteArray) (W : World), Alike P w W → Calls Tryz.prog 155 #[.agg #[.string nm, v]] W fun e w' => WEnd (grpW d l) W e w'
section
variable {w : World} {P : Nat → Prop} {d : Nat}
theorem sim_meth (hR : RelW w P d) {v : Value} {s : Sim} (h : SimV (GrpV w P d) v s) (hs : simOK (grpOK d) s) (hk : s.kind ≠ 1) : WMeth w P v (simW (grpW d) s) := by
  rcases hs.2.2 with ⟨h1, _⟩ | h1 | ⟨h1, _⟩ | ⟨h1, _⟩ | ⟨h1, hg⟩
  · rcases h1 with h1 | h1 | h1 | h1
    · exact ⟨_, _, _, _, h.tag h1, meth_tag _, call_tag _, fun W _ => by rw [show simW (grpW d) s = ⟨0, 0, 1⟩ by simp [simW, h1]]; exact tagW _ W⟩
    · exact ⟨_, _, _, _, h.id h1, meth_id _, call_id _, fun W _ => by rw [show simW (grpW d) s = ⟨1, 0, 0⟩ by simp [simW, h1]]; exact idW _ W⟩
    · exact ⟨_, _, _, _, h.cls h1, meth_cls _, call_cls _, fun W _ => by rw [show simW (grpW d) s = ⟨0, 1, 0⟩ by simp [simW, h1]]; exact clsW _ W⟩
    · exact ⟨_, _, _, _, h.has h1, meth_attr _ _ _ _, call_attr _, fun W _ => by rw [show simW (grpW d) s = ⟨0, 1, 0⟩ by simp [simW, h1]]; exact attrW _ _ _ _ W⟩
  · rcases h1 with h1 | h1 | h1
    · exact absurd h1 hk
    · exact ⟨_, _, _, _, h.empty h1, meth_empty, call_abs _, fun W _ => by rw [show simW (grpW d) s = ⟨0, 1, 0⟩ by simp [simW, h1]]; exact absW W⟩
    · exact ⟨_, _, _, _, h.root h1, meth_root, call_abs _, fun W _ => by rw [show simW (grpW d) s = ⟨0, 1, 0⟩ by simp [simW, h1]]; exact absW W⟩
  · have e : simW (grpW d) s = ⟨0, 1, 0⟩ := by
      unfold simW
      rw [if_neg (by omega), if_neg (by omega), if_neg (by omega), if_neg (by omega)]
    exact ⟨_, _, _, _, h.attr h1, meth_attr _ _ _ _, call_attr _, fun W _ => by rw [e]; exact attrW _ _ _ _ W⟩
  · exact ⟨_, _, _, _, h.nth h1, meth_nth _ _ _ _, call_abs _, fun W _ => by rw [show simW (grpW d) s = ⟨0, 1, 0⟩ by simp [simW, h1]]; exact absW W⟩
  · obtain ⟨x, hx, hg2⟩ := h.rel h1
    have e : simW (grpW d) s = grpW d s.subs := by
      unfold simW
      rw [if_neg (by omega), if_neg (by omega), if_neg (by omega), if_pos h1]
    exact ⟨_, _, _, _, hx, meth_rel _ _, call_rel _, fun W hW => by rw [e]; exact hR x s.subs hg2 hg _ W hW⟩
theorem partsW_sels (G : Grp → T3) (l : List Sim) : partsW G l = sum3 (simW G) (sels l) := by
  unfold partsW sels
  induction l with
  | nil => rfl
  | cons s l ih =>
    by_cases h : s.kind = 1
    · rw [List.filter_cons_of_neg (by simp [h]), sum3, ih]
      rw [show simW G s = zero3 by simp [simW, h], zero_add3]
    · rw [List.filter_cons_of_pos (by simp [h]), sum3, sum3, ih]
theorem cmp_meth (hP : ∀ b, P b → b < w.heap.size) (hR : RelW w P d) (hd : wB d ≤ 10000) {v : Value} {l : List Sim} (h : CmpV (GrpV w P d) w P v l) (hl : partsOK (grpOK d) l) : WMeth w P v (partsW (grpW d) l) := by
  have hmem : ∀ s ∈ sels l, simOK (grpOK d) s ∧ s.kind ≠ 1 := fun s hs => by
    obtain ⟨h1, h2⟩ := sels_mem hs
    obtain ⟨k, hk⟩ := mem_get h1
    exact ⟨(hl.2.2 k s hk).1, h2⟩
  rw [partsW_sels]
  rcases h with ⟨s, h1, h2⟩ | ⟨_, x, h2, h3⟩
  · have hs := hmem s (by rw [h1]; simp)
    rw [h1, sum3, sum3, add3_zero]
    exact sim_meth hR h2 hs.1 hs.2
  · have hrow : RowW (simW (grpW d)) w P x (sels l) := Row.turn h3 (fun _ h => h) (Alike.refl _ _) fun f s hs hf => by
      obtain ⟨y, hy, hv⟩ := hf
      exact ⟨y, hy, sim_meth hR hv (hmem s hs).1 (hmem s hs).2⟩
    have hlen : (sels l).length ≤ 4 := Nat.le_trans (List.length_filter_le _ _) hl.2.1
    exact ⟨_, _, _, _, h2, meth_comp _ _, call_comp _, fun W hW => compW (simW (grpW d)) w P x (sels l) (wB d) hrow (fun s hs => simW_ok (hmem s hs).1 (wB_pos d) fun l hl => grpW_ok hl) hlen (by omega) W (hW.lt hP) hW⟩
theorem cpx_meth (hP : ∀ b, P b → b < w.heap.size) (hR : RelW w P d) (hd : wB d ≤ 10000) {v : Value} {c : Cpx} (h : CpxV (CmpV (GrpV w P d) w P) v c) : (∀ p ∈ c, partsOK (grpOK d) p.2) → c.length ≤ 4 → WMeth w P v (cpxW (grpW d) c) := by
  induction h with
  | one h =>
    rename_i v p
    intro hc _
    have := cmp_meth hP hR hd h (hc p (by simp))
    simpa [cpxW, sum3, add3_zero] using this
  | more hf hs ih =>
    rename_i f s c p
    intro hc hl
    have h1 := ih (fun q hq => hc q (by simp [hq])) (by simp at hl; omega)
    have h2 := cmp_meth hP hR hd hs (hc p (by simp))
    have e : cpxW (grpW d) (c ++ [p]) = add3 (cpxW (grpW d) c) (partsW (grpW d) p.2) := by unfold cpxW; rw [sum3_snoc]
    rw [e]
    have b1 : okT (c.length * (4 * wB d)) (cpxW (grpW d) c) := sum3_ok fun q hq => partsW_ok (hc q (by simp [hq])) (wB_pos d) fun l hl => grpW_ok hl
    have b2 : okT (4 * wB d) (partsW (grpW d) p.2) := partsW_ok (hc p (by simp)) (wB_pos d) fun l hl => grpW_ok hl
    have hl2 : c.length ≤ 4 := by simp at hl; omega
    exact ⟨_, _, _, _, rfl, meth_comb _ _ _, call_comb _, fun W hW => combW w P f s _ _ _ _ _ h1 h2 b1 b2 (by have := Nat.mul_le_mul hl2 (Nat.mul_le_mul_left 4 hd); omega) (by omega) W (hW.lt hP) hW⟩
end
theorem grp_row {w : World} {P : Nat → Prop} (hP : ∀ b, P b → b < w.heap.size) {d : Nat} (hR : RelW w P d) (hd : wB d ≤ 10000) {v : Value} {l : Grp} (h : GrpV w P (d + 1) v l) (hl : grpOK (d + 1) l) : RowW (cpxW (grpW d)) w P v l :=
  Row.turn h (fun _ h => h) (Alike.refl _ _) fun f c hc hf => by
    obtain ⟨x, hx, hv⟩ := hf
    have hco := hl.2.2 c hc
    refine ⟨x, hx, cpx_meth hP hR hd hv (fun p hp => ?_) hco.2.1⟩
    obtain ⟨k, hk⟩ := mem_get hp
    exact (hco.2.2 k p hk).1
theorem relW_all {w : World} {P : Nat → Prop} (hP : ∀ b, P b → b < w.heap.size) : ∀ d, wB d ≤ 10000 → RelW w P d := by
  intro d
  induction d with
  | zero => intro _ v l _ h; exact h.elim
  | succ d ih =>
    intro hd v l hv hl nm W hW
    have hd' : wB d ≤ 10000 := by simp only [wB] at hd; omega
    exact relW (cpxW (grpW d)) w P v l nm (grp_row hP (ih hd') hd' hv hl) hl.2.1 W (hW.lt hP) hW
end Go.Proofs.YtoindammaphefaaGreatDoor
/- PseudoElement of whatever the parser hands back for a selector without one: the empty text. -/
namespace Go.Proofs.YtoindammaphefaaGreatDoor
open Go.RowKit

/-- The empty text was handed back. -/
def PEnd (w : World) (e : Ending) (w' : World) : Prop := e = .returned (.string ByteArray.empty) ∧ Below w.heap.size w w'
def PMeth (w : World) (P : Nat → Prop) (v : Value) : Prop :=
  ∃ T x K u, v = .iface T x ∧ (∀ W, (method 331 T x "PseudoElement").run Tryz.prog W = .ok (K, u) W) ∧ (∀ W, (callFunc K #[u]).run Tryz.prog W = .ok (.enter K #[u]) W) ∧ ∀ W, Alike P w W → Calls Tryz.prog K #[u] W (PEnd W)

theorem tagP (r : ByteArray) (w : World) : Calls Tryz.prog 130 #[.agg #[.string r]] w (PEnd w) := by
  go_enter Tryz.func130, Tryz.ntmps130
  go_wp2_with fail
  go_ret
  exact ⟨rfl, (Below.refl _ _).alloc (Nat.le_refl _) _⟩
theorem pmeth_tag (r : ByteArray) (W : World) : (method 331 96 (.agg #[.string r]) "PseudoElement").run Tryz.prog W = .ok (130, .agg #[.string r]) W := by kernel_rfl
theorem pcall_tag (u : Value) (W : World) : (callFunc 130 #[u]).run Tryz.prog W = .ok (.enter 130 #[u]) W := by kernel_rfl
theorem idP (r : ByteArray) (w : World) : Calls Tryz.prog 134 #[.agg #[.string r]] w (PEnd w) := by
  go_enter Tryz.func134, Tryz.ntmps134
  go_wp2_with fail
  go_ret
  exact ⟨rfl, (Below.refl _ _).alloc (Nat.le_refl _) _⟩
theorem pmeth_id (r : ByteArray) (W : World) : (method 331 100 (.agg #[.string r]) "PseudoElement").run Tryz.prog W = .ok (134, .agg #[.string r]) W := by kernel_rfl
theorem pcall_id (u : Value) (W : World) : (callFunc 134 #[u]).run Tryz.prog W = .ok (.enter 134 #[u]) W := by kernel_rfl
theorem clsP (r : ByteArray) (w : World) : Calls Tryz.prog 142 #[.agg #[.string r]] w (PEnd w) := by
  go_enter Tryz.func142, Tryz.ntmps142
  go_wp2_with fail
  go_ret
  exact ⟨rfl, (Below.refl _ _).alloc (Nat.le_refl _) _⟩
theorem pmeth_cls (r : ByteArray) (W : World) : (method 331 104 (.agg #[.string r]) "PseudoElement").run Tryz.prog W = .ok (142, .agg #[.string r]) W := by kernel_rfl
theorem pcall_cls (u : Value) (W : World) : (callFunc 142 #[u]).run Tryz.prog W = .ok (.enter 142 #[u]) W := by kernel_rfl
theorem attrP (r r1 r2 : ByteArray) (b : Bool) (w : World) : Calls Tryz.prog 146 #[.agg #[.string r, .string r1, .string r2, .bool b]] w (PEnd w) := by
  go_enter Tryz.func146, Tryz.ntmps146
  go_wp2_with fail
  go_ret
  exact ⟨rfl, (Below.refl _ _).alloc (Nat.le_refl _) _⟩
theorem pmeth_attr (r r1 r2 : ByteArray) (b : Bool) (W : World) : (method 331 108 (.agg #[.string r, .string r1, .string r2, .bool b]) "PseudoElement").run Tryz.prog W = .ok (146, .agg #[.string r, .string r1, .string r2, .bool b]) W := by kernel_rfl
theorem pcall_attr (u : Value) (W : World) : (callFunc 146 #[u]).run Tryz.prog W = .ok (.enter 146 #[u]) W := by kernel_rfl
theorem relP (r : ByteArray) (A : Option Addr) (n c : Nat) (w : World) : Calls Tryz.prog 154 #[.agg #[.string r, .slice A n c]] w (PEnd w) := by
  go_enter Tryz.func154, Tryz.ntmps154
  go_wp2_with fail
  go_ret
  exact ⟨rfl, (Below.refl _ _).alloc (Nat.le_refl _) _⟩
theorem pmeth_rel (r : ByteArray) (A : Option Addr) (n c : Nat) (W : World) : (method 331 121 (.agg #[.string r, .slice A n c]) "PseudoElement").run Tryz.prog W = .ok (154, .agg #[.string r, .slice A n c]) W := by kernel_rfl
theorem pcall_rel (u : Value) (W : World) : (callFunc 154 #[u]).run Tryz.prog W = .ok (.enter 154 #[u]) W := by kernel_rfl
theorem compP (A : Option Addr) (n c : Nat) (w : World) : Calls Tryz.prog 150 #[.agg #[.slice A n c, .string ByteArray.empty]] w (PEnd w) := by
  go_enter Tryz.func150, Tryz.ntmps150
  go_wp2_with fail
  go_ret
  exact ⟨rfl, (Below.refl _ _).alloc (Nat.le_refl _) _⟩
theorem pmeth_comp (A : Option Addr) (n c : Nat) (W : World) : (method 331 114 (.agg #[.slice A n c, .string ByteArray.empty]) "PseudoElement").run Tryz.prog W = .ok (150, .agg #[.slice A n c, .string ByteArray.empty]) W := by kernel_rfl
theorem pcall_comp (u : Value) (W : World) : (callFunc 150 #[u]).run Tryz.prog W = .ok (.enter 150 #[u]) W := by kernel_rfl
theorem absP (w : World) : Calls Tryz.prog 157 #[.agg #[]] w (PEnd w) := by
  go_enter Tryz.func157, Tryz.ntmps157
  go_wp2_with fail
  go_ret
  exact ⟨rfl, (Below.refl _ _).alloc (Nat.le_refl _) _⟩
theorem pmeth_nth (a b : Int) (l o : Bool) (W : World) : (method 331 129 (.agg #[.int .i64 a, .int .i64 b, .bool l, .bool o]) "PseudoElement").run Tryz.prog W = .ok (157, .agg #[]) W := by kernel_rfl
theorem pmeth_empty (W : World) : (method 331 134 (.agg #[]) "PseudoElement").run Tryz.prog W = .ok (157, .agg #[]) W := by kernel_rfl
theorem pmeth_root (W : World) : (method 331 135 (.agg #[]) "PseudoElement").run Tryz.prog W = .ok (157, .agg #[]) W := by kernel_rfl
theorem pcall_abs (u : Value) (W : World) : (callFunc 157 #[u]).run Tryz.prog W = .ok (.enter 157 #[u]) W := by kernel_rfl
theorem pmeth_comb (f s : Value) (j : Int) (W : World) : (method 331 91 (.agg #[f, .int .u8 j, s]) "PseudoElement").run Tryz.prog W = .ok (125, .agg #[f, .int .u8 j, s]) W := by kernel_rfl
theorem pcall_comb (u : Value) (W : World) : (callFunc 125 #[u]).run Tryz.prog W = .ok (.enter 125 #[u]) W := by kernel_rfl
set_option maxHeartbeats 1000000 in
set_option maxRecDepth 100000 in
theorem combP (w : World) (P : Nat → Prop) (T : TypeId) (f s : Value) (j : Int) (hs : PMeth w P s) (W : World) (hP : ∀ b, P b → b < W.heap.size) (hW : Alike P w W) :
    Calls Tryz.prog 125 #[.agg #[.iface T f, .int .u8 j, s]] W (PEnd W) := by
  obtain ⟨S, y, L, v, rfl, m2, c2, q2⟩ := hs
  have Q2 := Lib.hid q2
  have hal := Lib.hid (fun o => hW.alloc hP o)
  clear q2 hW hP
  go_enter Tryz.func125, Tryz.ntmps125
  go_wp2_with fail
  refine (Q2.out _ (hal.out _)).mono ?_
  rintro e w2 ⟨rfl, hb⟩
  have HB := Lib.hid hb
  clear hb
  go_wp2_with fail
  go_ret
  exact ⟨rfl, ((Below.refl _ _).alloc (Nat.le_refl _) _).trans (HB.out.mono (by simp))⟩
section
variable {w : World} {P : Nat → Prop} {d : Nat}
theorem sim_pmeth {v : Value} {s : Sim} (h : SimV (GrpV w P d) v s) (hs : simOK (grpOK d) s) (hk : s.kind ≠ 1) : PMeth w P v := by
  rcases hs.2.2 with ⟨h1, _⟩ | h1 | ⟨h1, _⟩ | ⟨h1, _⟩ | ⟨h1, hg⟩
  · rcases h1 with h1 | h1 | h1 | h1
    · exact ⟨_, _, _, _, h.tag h1, pmeth_tag _, pcall_tag _, fun W _ => tagP _ W⟩
    · exact ⟨_, _, _, _, h.id h1, pmeth_id _, pcall_id _, fun W _ => idP _ W⟩
    · exact ⟨_, _, _, _, h.cls h1, pmeth_cls _, pcall_cls _, fun W _ => clsP _ W⟩
    · exact ⟨_, _, _, _, h.has h1, pmeth_attr _ _ _ _, pcall_attr _, fun W _ => attrP _ _ _ _ W⟩
  · rcases h1 with h1 | h1 | h1
    · exact absurd h1 hk
    · exact ⟨_, _, _, _, h.empty h1, pmeth_empty, pcall_abs _, fun W _ => absP W⟩
    · exact ⟨_, _, _, _, h.root h1, pmeth_root, pcall_abs _, fun W _ => absP W⟩
  · exact ⟨_, _, _, _, h.attr h1, pmeth_attr _ _ _ _, pcall_attr _, fun W _ => attrP _ _ _ _ W⟩
  · exact ⟨_, _, _, _, h.nth h1, pmeth_nth _ _ _ _, pcall_abs _, fun W _ => absP W⟩
  · obtain ⟨x, hx, hg2⟩ := h.rel h1
    obtain ⟨A, n, c, rfl⟩ := hg2.slice
    exact ⟨_, _, _, _, hx, pmeth_rel _ _ _ _, pcall_rel _, fun W _ => relP _ _ _ _ W⟩
theorem cmp_pmeth {v : Value} {l : List Sim} (h : CmpV (GrpV w P d) w P v l) (hl : partsOK (grpOK d) l) : PMeth w P v := by
  rcases h with ⟨s, h1, h2⟩ | ⟨_, x, h2, h3⟩
  · obtain ⟨h4, h5⟩ := sels_mem (l := l) (s := s) (by rw [h1]; simp)
    obtain ⟨k, hk⟩ := mem_get h4
    exact sim_pmeth h2 (hl.2.2 k s hk).1 h5
  · obtain ⟨A, c, rfl, _⟩ := h3
    exact ⟨_, _, _, _, h2, pmeth_comp _ _ _, pcall_comp _, fun W _ => compP _ _ _ W⟩
theorem cpx_pmeth (hP : ∀ b, P b → b < w.heap.size) {v : Value} {c : Cpx} (h : CpxV (CmpV (GrpV w P d) w P) v c) (hc : ∀ p ∈ c, partsOK (grpOK d) p.2) : PMeth w P v := by
  cases h with
  | one h => exact cmp_pmeth h (hc _ (by simp))
  | more hf hs =>
    rename_i f s c p
    have h2 := cmp_pmeth hs (hc p (by simp))
    obtain ⟨T, x, rfl⟩ : ∃ T x, f = .iface T x := by
      cases hf with
      | one h => exact h.iface (hc _ (by simp))
      | more _ _ => exact ⟨_, _, rfl⟩
    exact ⟨_, _, _, _, rfl, pmeth_comb _ _ _, pcall_comb _, fun W hW => combP w P T x s _ h2 W (hW.lt hP) hW⟩
end
/-- A row of values without pseudo-elements. -/
def RowP {α : Type} (w : World) (P : Nat → Prop) (v : Value) (l : List α) : Prop := Row 1 (fun fc (_ : α) => ∃ x, fc 0 = some x ∧ PMeth w P x) w P v l
theorem RowP.at {α : Type} {w : World} {P : Nat → Prop} {v : Value} {l : List α} (h : RowP w P v l) {k : Nat} {s : α} (hs : l[k]? = some s) :
    ∃ ad c x, v = .slice (some ad) l.length c ∧ w.cell? (ad.add k) = some x ∧ PMeth w P x := by
  obtain ⟨A, c, hv, _, hk⟩ := h
  obtain ⟨ad, rfl, _, x, hx, hm⟩ := hk k s hs
  exact ⟨ad, c, x, hv, by simpa using hx, hm⟩
theorem grp_rowP {w : World} {P : Nat → Prop} (hP : ∀ b, P b → b < w.heap.size) {d : Nat} {v : Value} {l : Grp} (h : GrpV w P (d + 1) v l) (hl : grpOK (d + 1) l) : RowP w P v l :=
  Row.turn h (fun _ h => h) (Alike.refl _ _) fun f c hc hf => by
    obtain ⟨x, hx, hv⟩ := hf
    have hco := hl.2.2 c hc
    refine ⟨x, hx, cpx_pmeth hP hv fun p hp => ?_⟩
    obtain ⟨k, hk⟩ := mem_get hp
    exact (hco.2.2 k p hk).1
end Go.Proofs.YtoindammaphefaaGreatDoor
/- The walks of ZZSpecificity and of the thin package's Specificity: at a text that the reference wrote, the weights of its selectors. -/
namespace Go.Proofs.YtoindammaphefaaGreatDoor
open Go.RowKit

def cells3 (t : T3) : List Value := [.int .i64 t.a, .int .i64 t.b, .int .i64 t.c]
theorem cell_three (w : World) (a b c : Value) (e : TypeId) : ∀ j u, [a, b, c][j]? = some u → (w.alloc (.cells #[a, b, c] e)).cell? ((⟨w.heap.size, 0, none⟩ : Addr).add j) = some u := by
  intro j u hu
  have hadd : (⟨w.heap.size, 0, none⟩ : Addr).add j = ⟨w.heap.size, j, none⟩ := by unfold Addr.add; split <;> simp_all
  rw [hadd, cell_of_row (w.alloc (.cells #[a, b, c] e)) w.heap.size j #[a, b, c] e (0, 0) (heap_alloc_new w _)]
  simpa using hu
theorem infoSp : (Tryz.prog.info? 55).map (fun i => (i.zero, i.size, i.bytes)) = some (some (.agg #[.int .i64 0, .int .i64 0, .int .i64 0]), 3, 24) := by kernel_rfl
theorem infoAr : (Tryz.prog.info? 32).map (fun i => (i.zero, i.size, i.bytes)) = some (some (.agg #[.int .i64 0, .int .i64 0, .int .i64 0]), 3, 24) := by kernel_rfl
theorem infoSt : (Tryz.prog.info? 9).map (fun i => (i.zero, i.size, i.bytes)) = some (some (.string ByteArray.empty), 1, 16) := by kernel_rfl
theorem own_base {w : World} {b b' : Nat} {e : TypeId} {s n : Nat} {v : Value} {xs : List Value} (h : w.ownsRow b e s v n xs) (hb : b' ≤ b) : w.ownsRow b' e s v n xs := by
  refine ⟨h.1, ?_⟩
  rcases h.2 with hn | ⟨g, cap, cur, rfl, hg, rest⟩
  · exact .inl hn
  · exact .inr ⟨g, cap, cur, rfl, Nat.le_trans hb hg, rest⟩
/-- Weights in a row of the call's own. -/
def OwnW (e : TypeId) (base : Nat) (w : World) (v : Value) (l : List T3) : Prop := w.ownsRow base e 3 v l.length (l.flatMap cells3)
theorem OwnW.add {e : TypeId} {base : Nat} {w : World} {v : Value} {l : List T3} {t : T3} {n : Nat} (hn : n = l.length) (h : w.ownsRow base e 3 v (n + 1) (l.flatMap cells3 ++ cells3 t)) : OwnW e base w v (l ++ [t]) := by
  subst hn
  unfold OwnW
  rw [List.length_append, List.flatMap_append]
  simpa using h
/-- What ZZSpecificity hands back. -/
def SpecEnd (d : Nat) (l : Grp) (w : World) (e : Ending) (w' : World) : Prop :=
  ∃ v v2, e = .returned (.tuple #[v, v2, .nilIface]) ∧ OwnW 55 w.heap.size w' v (l.map (cpxW (grpW d))) ∧ Below w.heap.size w w'

set_option maxHeartbeats 8000000 in
set_option maxRecDepth 100000 in
theorem zzSpec_any (d : Nat) (s : ByteArray) (l : Grp) (w : World) (hs : s.size ≤ 140737488351232) (hd : d + 1 ≤ 900) (hw : wB d ≤ 10000) (hl : grpOK (d + 1) l) (hT : s.data.toList = grpT false (d + 1) l) :
    Calls Tryz.prog 12 #[.string s] w fun e w' => SpecEnd d l w e w' := by
  have HPA := Lib.hid (fun W => parsePE_any false (d + 1) s l W hs hd hl hT)
  obtain ⟨i1, hi1, hz10, hz11, hz12⟩ := info_parts infoSp
  obtain ⟨i2, hi2, hz20, hz21, hz22⟩ := info_parts infoSt
  have hl3 := hl.2.1
  have HL := Lib.hid hl
  clear hl hT
  go_enter Tryz.func12, Tryz.ntmps12
  go_wp2_with fail
  refine (HPA.out _).mono ?_
  rintro e w1 ⟨v, rfl, hv, hb⟩
  have hPl : ∀ b, New w w1 b → b < w1.heap.size := fun b hb => hb.2
  have HR := Lib.hid (grp_row hPl (relW_all hPl d hw) hw hv HL.out)
  have HP := Lib.hid (grp_rowP hPl hv HL.out)
  have HB1 := Lib.hid hb
  have hbs := hb.size
  obtain ⟨A, c, rfl, hc1, hc2⟩ := hv
  clear hc1 hc2 hb hPl
  go_wp2_with fail
  go_loopw [2, 3, 15] (fun v2 v3 v15 wr' => ∃ k : Nat, v15 = .int .i64 k ∧ k ≤ l.length ∧ Below w1.heap.size w1 wr' ∧ Hid (OwnW 55 w1.heap.size wr' v2 ((l.take k).map (cpxW (grpW d)))) ∧ Hid (wr'.ownsRow w1.heap.size 9 1 v3 k (List.replicate k (.string ByteArray.empty))))
    (fun _ _ v15 _ => l.length - (intOf v15).toNat)
  case atStart => exact ⟨0, rfl, Nat.zero_le _, Below.refl _ _, World.ownsRow_nil _ _ _ _, World.ownsRow_nil _ _ _ _⟩
  case round =>
    obtain ⟨k, rfl, hk, hb, HA, HS⟩ := hrel
    rcases hc : l[k]? with _ | x
    · have hkl : k = l.length := by rw [List.getElem?_eq_none_iff] at hc; omega
      have hlt : ¬ ((k : Int) < (l.length : Int)) := by omega
      have HB := Lib.hid hb
      have HKL := Lib.hid hkl
      clear hc hb hkl
      go_wp2_with fail
      go_ret3
      refine ⟨_, _, rfl, own_base (by have := HA.out; rw [HKL.out, List.take_length] at this; exact this) hbs, HB1.out.trans (HB.out.mono hbs)⟩
    · have hkl : k < l.length := (List.getElem?_eq_some_iff.1 hc).1
      have hlt : (k : Int) < (l.length : Int) := by omega
      obtain ⟨ad, c', y, hv, hPa, hxc, T, y1, K, u, rfl, m1, c1, q1⟩ := HR.out.at hc
      injection hv with hA hll hcc
      subst hA hcc
      clear hll
      obtain ⟨ad', c', y', hv, hy', T', y2, L, up, he2, m2, c2, q2⟩ := HP.out.at hc
      injection hv with hA' hll hcc
      injection hA' with hA'
      subst hA' hcc
      clear hll
      have hyy : Value.iface T y1 = y' := by
        rw [hxc] at hy'
        injection hy'
      subst hyy
      injection he2 with hT2 hy2
      subst hT2 hy2
      have hal : Alike (New w w1) w1 wr := Alike.below hb fun b hb => hb.2
      have e0 : wr.cell? (ad.add k) = some (.iface T y1) := (hal.cell (by rw [add_lt]; exact hPa)).trans hxc
      obtain ⟨s1, s2, s3, hfs⟩ : ∃ s1 s2 s3, cpxW (grpW d) x = ⟨s1, s2, s3⟩ := ⟨_, _, _, rfl⟩
      rw [hfs] at q1
      have htk : (l.take (k + 1)).map (cpxW (grpW d)) = (l.take k).map (cpxW (grpW d)) ++ [⟨s1, s2, s3⟩] := by rw [take_next' hc, List.map_append]; simp [hfs]
      have hln : k = ((l.take k).map (cpxW (grpW d))).length := by rw [List.length_map, List.length_take]; omega
      have hs1 := hb.size
      have Q1 := Lib.hid q1
      have Q2 := Lib.hid q2
      have HAL := Lib.hid hal
      have HTK := Lib.hid (⟨htk, hln⟩ : _ ∧ _)
      have HB := Lib.hid hb
      clear hc hxc hPa q1 q2 hal hfs htk hln hb hy'
      go_wp2_with fail
      refine (Q1.out _ HAL.out).mono ?_
      rintro e w2 ⟨he, hb2⟩
      have he' : e = .returned (.agg #[.int .i64 s1, .int .i64 s2, .int .i64 s3]) := he
      subst he'
      have hbb2 := HB.out.trans (hb2.mono hs1)
      have hs2 := hb2.size
      have hown := HA.out
      unfold OwnW at hown
      rw [← HTK.out.2] at hown
      have hown2 := own_keep hown fun b hb => hb2.block b (hown.lt b hb).2
      have hownS2 := own_keep HS.out fun b hb => hb2.block b (HS.out.lt b hb).2
      have HO2 := Lib.hid hown2
      have HS2 := Lib.hid hownS2
      have HBB2 := Lib.hid hbb2
      clear hown hown2 hownS2 hb2 hbb2 he
      go_wp2_with (first
        | (at_builtin
           refine wpList_append_own _ rfl _ _ 49 rfl w1.heap.size 55 i1 _ 3 24 Tryz.underlying49 hi1 hz10 hz11 hz12 rfl (by decide) _ _ _ rfl (HO2.out.alloc _) ⟨w2.heap.size, 0, none⟩ 1 1 [.int .i64 s1, .int .i64 s2, .int .i64 s3] rfl rfl (cell_three _ _ _ _ _) ?q1 ?q2 ?q3 ?q4 ?_
           case q1 => intro u hu; simp at hu; rcases hu with rfl | rfl | rfl <;> rfl
           case q2 => unfold maxLen; omega
           case q3 => omega
           case q4 => simp; omega
           intro v' w3 hown' hg' _))
      have hl3' : ∀ b, u2.ownBlock = some b → w1.heap.size ≤ b := fun b hb => (HO2.out.lt b hb).1
      have hb3 : Below w1.heap.size w1 w3 := (HBB2.out.alloc (by omega) _).grown hg' (by simp; omega) hl3'
      have hS3 : w3.ownsRow w1.heap.size 9 1 u3 k (List.replicate k (.string ByteArray.empty)) := own_keep HS2.out fun b hb => by
        have hlt' := (HS2.out.lt b hb).2
        rw [hg'.block b (by simp; omega) (fun e => by
          rcases own_types HS2.out HO2.out (by decide) with h0 | h0
          · rw [h0] at hb; cases hb
          · exact h0 (hb.trans e))]
        exact heap_alloc_old _ _ hlt'
      have hal3 : Alike (New w w1) w1 w3 := Alike.below hb3 fun b hb => hb.2
      have hA3 : OwnW 55 w1.heap.size w3 v' ((l.take k).map (cpxW (grpW d)) ++ [⟨s1, s2, s3⟩]) := OwnW.add HTK.out.2 hown'
      have hs3 := hb3.size
      have hs23 : w2.heap.size ≤ w3.heap.size := by have := hg'.size; simp at this; omega
      rw [← HTK.out.1] at hA3
      have HA3 := Lib.hid hA3
      have HS3 := Lib.hid hS3
      have HB3 := Lib.hid hb3
      clear hown' hg' hb3 hS3 hA3 hl3'
      refine (Q2.out _ hal3).mono ?_
      rintro e w4 ⟨rfl, hb4⟩
      have hs4 := hb4.size
      have HA4 := Lib.hid (show OwnW 55 w1.heap.size w4 v' ((l.take (k + 1)).map (cpxW (grpW d))) from own_keep HA3.out fun b hb => hb4.block b (HA3.out.lt b hb).2)
      have HS4 := Lib.hid (own_keep HS3.out fun b hb => hb4.block b (HS3.out.lt b hb).2)
      have HB4 := Lib.hid (HB3.out.trans (hb4.mono hs3))
      clear hb4 hal3
      go_wp2_with (first
        | (at_builtin
           refine wpList_append_own _ rfl _ _ 50 rfl w1.heap.size 9 i2 _ 1 16 Tryz.underlying50 hi2 hz20 hz21 hz22 rfl (by decide) _ _ _ rfl (HS4.out.alloc _) ⟨w4.heap.size, 0, none⟩ 1 1 [.string ByteArray.empty] rfl rfl (cell_one_new _ _ _) ?r1 ?r2 ?r3 ?r4 ?_
           case r1 => intro u hu; simp at hu; subst hu; rfl
           case r2 => unfold maxLen; omega
           case r3 => omega
           case r4 => simp; omega
           intro v'' w5 hown' hg' _))
      have hl5 : ∀ b, u3.ownBlock = some b → w1.heap.size ≤ b := fun b hb => (HS4.out.lt b hb).1
      have hb5 : Below w1.heap.size w1 w5 := (HB4.out.alloc (by omega) _).grown hg' (by simp; omega) hl5
      have hA5 : OwnW 55 w1.heap.size w5 v' ((l.take (k + 1)).map (cpxW (grpW d))) := own_keep HA4.out fun b hb => by
        have hlt' := (HA4.out.lt b hb).2
        rw [hg'.block b (by simp; omega) (fun e => by
          rcases own_types HA4.out HS4.out (by decide) with h0 | h0
          · rw [h0] at hb; cases hb
          · exact h0 (hb.trans e))]
        exact heap_alloc_old _ _ hlt'
      have hS5 : w5.ownsRow w1.heap.size 9 1 v'' (k + 1) (List.replicate (k + 1) (.string ByteArray.empty)) := by
        rw [List.replicate_succ']; exact hown'
      have HA5 := Lib.hid hA5
      have HS5 := Lib.hid hS5
      have HB5 := Lib.hid hb5
      clear hown' hg' hb5 hS5 hA5 hl5
      go_roundw
      case rel => exact ⟨k + 1, by go_num, by omega, HB5.out, HA5.out, HS5.out⟩
      case measure => simp [intOf]; omega
end Go.Proofs.YtoindammaphefaaGreatDoor
namespace Go.Proofs.YtoindammaphefaaGreatDoor
open Go.RowKit

def ISpecEnd (d : Nat) (l : Grp) (w : World) (e : Ending) (w' : World) : Prop :=
  ∃ v, e = .returned (.tuple #[v, .bool true]) ∧ OwnW 32 w.heap.size w' v (l.map (cpxW (grpW d))) ∧ Below w.heap.size w w'
/-- Weights in a row read as a row of three cells each. -/
theorem OwnW.at {e : TypeId} {base : Nat} {w : World} {v : Value} {l : List T3} (h : OwnW e base w v l) {k : Nat} {t : T3} (ht : l[k]? = some t) :
    ∃ ad c, v = .slice (some ad) l.length c ∧ ad.block < w.heap.size ∧ w.cell? (ad.add (k * 3)) = some (.int .i64 t.a) ∧ w.cell? (ad.add (k * 3 + 1)) = some (.int .i64 t.b) ∧ w.cell? (ad.add (k * 3 + 2)) = some (.int .i64 t.c) := by
  obtain ⟨A, c, hv, _, hk⟩ := own_row cells3 (fun _ => rfl) h
  obtain ⟨ad, rfl, hP, hc⟩ := hk k t ht
  exact ⟨ad, c, hv, by rw [hv] at hP h; exact (h.lt _ rfl).2, hc 0 (by decide), hc 1 (by decide), hc 2 (by decide)⟩
set_option maxHeartbeats 8000000 in
set_option maxRecDepth 100000 in
theorem iSpec_any (d : Nat) (s : ByteArray) (l : Grp) (w : World) (hs : s.size ≤ 140737488351232) (hd : d + 1 ≤ 900) (hw : wB d ≤ 10000) (hl : grpOK (d + 1) l) (hT : s.data.toList = grpT false (d + 1) l) :
    Calls Tryz.prog 7 #[.string s] w fun e w' => ISpecEnd d l w e w' := by
  have HZ := Lib.hid (fun W => zzSpec_any d s l W hs hd hw hl hT)
  obtain ⟨i1, hi1, hz10, hz11, hz12⟩ := info_parts infoAr
  have hl3 := hl.2.1
  clear hl hT hs hd hw
  obtain ⟨ws, hws⟩ : ∃ ws, ws = l.map (cpxW (grpW d)) := ⟨_, rfl⟩
  have hlen : ws.length ≤ 3 := by rw [hws, List.length_map]; exact hl3
  unfold SpecEnd at HZ
  unfold ISpecEnd
  rw [← hws] at HZ ⊢
  clear hws hl3
  go_enter Tryz.func7, Tryz.ntmps7
  go_wp2_with fail
  refine (HZ.out _).mono ?_
  rintro e w1 ⟨v, v2, rfl, hv, hb⟩
  have hbs := hb.size
  have HV := Lib.hid hv
  have HB1 := Lib.hid hb
  obtain ⟨A, c, rfl⟩ := own_slice hv
  clear hv hb
  go_wp2_with fail
  go_loopw [7, 19] (fun v7 v19 wr' => ∃ k : Nat, v19 = .int .i64 k ∧ k ≤ ws.length ∧ Below w1.heap.size w1 wr' ∧ Hid (OwnW 32 w1.heap.size wr' v7 (ws.take k)))
    (fun _ v19 _ => ws.length - (intOf v19).toNat)
  case atStart => exact ⟨0, rfl, Nat.zero_le _, (Below.refl _ _).alloc (Nat.le_refl _) _, World.ownsRow_made w1 #[] 0 (Nat.le_refl _) (by decide) rfl⟩
  case round =>
    obtain ⟨k, rfl, hk, hb, HA⟩ := hrel
    rcases hc : ws[k]? with _ | t
    · have hkl : k = ws.length := by rw [List.getElem?_eq_none_iff] at hc; omega
      have hlt : ¬ ((k : Int) < (ws.length : Int)) := by omega
      have HB := Lib.hid hb
      have HKL := Lib.hid hkl
      clear hc hb hkl
      go_wp2_with fail
      go_quiet (fail)
      go_wp2_with fail
      go_ret2
      refine ⟨_, rfl, own_base (by have := HA.out; rw [HKL.out, List.take_length] at this; exact this) hbs, HB1.out.trans (below_drewN' (HB.out.mono hbs) _)⟩
    · have hkl : k < ws.length := (List.getElem?_eq_some_iff.1 hc).1
      have hlt : (k : Int) < (ws.length : Int) := by omega
      obtain ⟨ad, c', hv, hbk, e0, e1, e2⟩ := HV.out.at hc
      injection hv with hA hll hcc
      subst hA hcc
      clear hll
      have d0 := (hb.cell (by rw [add_lt]; exact hbk)).trans e0
      have d1 := cell_add1 _ _ _ ((hb.cell (by rw [add_lt]; exact hbk)).trans e1)
      have d2 := cell_add2 _ _ _ ((hb.cell (by rw [add_lt]; exact hbk)).trans e2)
      obtain ⟨s1, s2, s3⟩ := t
      simp only at d0 d1 d2
      have htk : ws.take (k + 1) = ws.take k ++ [⟨s1, s2, s3⟩] := take_next' hc
      have hln : k = (ws.take k).length := by rw [List.length_take]; omega
      have hs1 := hb.size
      have hown := HA.out
      unfold OwnW at hown
      rw [← hln] at hown
      have HO := Lib.hid hown
      have HTK := Lib.hid (⟨htk, hln⟩ : _ ∧ _)
      have HB := Lib.hid hb
      clear hc e0 e1 e2 htk hln hown hb hbk
      go_wp2_with (first
        | (at_builtin
           refine wpList_append_own _ rfl _ _ 26 rfl w1.heap.size 32 i1 _ 3 24 Tryz.underlying26 hi1 hz10 hz11 hz12 rfl (by decide) _ _ _ rfl ((HO.out.alloc _).alloc _) ⟨wr.heap.size + 1, 0, none⟩ 1 1 [.int .i64 s1, .int .i64 s2, .int .i64 s3] rfl rfl ?q0 ?q1 ?q2 ?q3 ?q4 ?_
           case q0 => have h := cell_three (wr.alloc (.cells #[.int .i64 s1, .int .i64 s2, .int .i64 s3] 55)) (.int .i64 s1) (.int .i64 s2) (.int .i64 s3) 32; simpa using h
           case q1 => intro u hu; simp at hu; rcases hu with rfl | rfl | rfl <;> rfl
           case q2 => unfold maxLen; omega
           case q3 => omega
           case q4 => simp; omega
           intro v' w3 hown' hg' _))
      have hl3' : ∀ b, u7.ownBlock = some b → w1.heap.size ≤ b := fun b hb => (HO.out.lt b hb).1
      have hb3 : Below w1.heap.size w1 w3 := ((HB.out.alloc (by omega) _).alloc (by simp; omega) _).grown hg' (by simp; omega) hl3'
      have hA3 : OwnW 32 w1.heap.size w3 v' (ws.take k ++ [⟨s1, s2, s3⟩]) := OwnW.add HTK.out.2 hown'
      rw [← HTK.out.1] at hA3
      have HA3 := Lib.hid hA3
      have HB3 := Lib.hid hb3
      clear hown' hg' hb3 hA3 hl3'
      go_roundw
      case rel => exact ⟨k + 1, by go_num, by omega, HB3.out, HA3.out⟩
      case measure => simp [intOf]; omega
end Go.Proofs.YtoindammaphefaaGreatDoor
