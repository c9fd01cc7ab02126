/- The walk of the reference's Weight: it adds up what stands in a selector. -/
import Derived.Test.YtoindammaphefaaGreatDoorGets
import Derived.Test.YtoindammaphefaaGreatDoorISpec
import Derived.BigRegion
namespace Go.Proofs.YtoindammaphefaaGreatDoor
open Go.RowKit

def WeightC (n : Nat) : Prop := ∀ (D : Nat) (w : World) (P : Nat → Prop) (v : Value) (c : Cpx), CpxIn (GrpIn w P D) w P v c → (∀ b, P b → b < w.heap.size) → cpxOK (grpOK n) c → Calls Tryz.prog 9 #[v] w fun e w' => WEnd (cpxW (grpW n) c) w e w'
theorem alloc2_new (w : World) (o1 o2 : Obj) : ((w.alloc o1).alloc o2).heap[w.heap.size + 1]? = some o2 := by
  have := heap_alloc_new (w.alloc o1) o2
  simpa using this
theorem cutB0 (w : World) (o o2 : Obj) : Below (w.heap.size + 1) (w.alloc o) ((w.alloc o).alloc o2) := (Below.refl _ _).alloc (by rw [World.size_alloc]; exact Nat.le_refl _) _
theorem below_drew3 {B : Nat} {a w : World} (h : Below B a w) : Below B a w.drew.drew.drew := ⟨h.os, h.tape, h.output, h.size, h.block⟩
set_option maxHeartbeats 2000000 in
set_option maxRecDepth 100000 in
theorem weight_step (n : Nat) (hn : n ≤ 2) (hC : ∀ m, n = m + 1 → WeightC m) : WeightC n := by
  intro D w P v c hcx hP hok
  obtain ⟨A, c0, rfl⟩ := hcx.slice
  have hc4 := hok.2.1
  have HC := Lib.hid hC
  have HCX := Lib.hid hcx
  have HP := Lib.hid hP
  have HOC := Lib.hid hok
  have hwb : wB n ≤ 256 := by rcases (by omega : n = 0 ∨ n = 1 ∨ n = 2) with rfl | rfl | rfl <;> decide
  have HSW : Hid (∀ s, simOK (grpOK n) s → okT 256 (simW (grpW n) s)) := Lib.hid fun s h => (simW_ok h (wB_pos n) fun l hl => grpW_ok hl).mono hwb
  clear hC hcx hP hok hwb
  go_enter Tryz.func9, Tryz.ntmps9
  go_wp2_with fail
  go_loopw [16] (fun v16 wr' => ∃ (k : Nat) (a b d : Int), v16 = .int .i64 k ∧ k ≤ c.length ∧ Below (w.heap.size + 1) (w.alloc (.cells #[.int .i64 0, .int .i64 0, .int .i64 0] 32)) wr'
      ∧ wr'.heap[w.heap.size + 1]? = some (.cells #[.int .i64 a, .int .i64 b, .int .i64 d] 32 (0, 0)) ∧ Hid (sum3 (fun p : Cmp => partsW (grpW n) p.2) (c.take k) = ⟨a, b, d⟩ ∧ okT (1024 * k) ⟨a, b, d⟩))
    (fun v16 _ => c.length - (intOf v16).toNat)
  case atStart => 
    refine ⟨0, 0, 0, 0, rfl, Nat.zero_le _, (Below.refl _ _).alloc (by simp) _, ?_, Lib.hid ⟨rfl, okT_zero _⟩⟩
    have := heap_alloc_new (w.alloc (.cells #[.int .i64 0, .int .i64 0, .int .i64 0] 32)) (.cells #[.int .i64 0, .int .i64 0, .int .i64 0] 32)
    simpa using this
  case round =>
    obtain ⟨k, a, b, d, rfl, hk, hb, hx, HS⟩ := hrel
    have hbw : Below w.heap.size w wr := ((Below.refl _ _).alloc (Nat.le_refl _) _).trans (hb.mono (by omega))
    rcases hp : c[k]? with _ | p
    · have hkl : k = c.length := by rw [List.getElem?_eq_none_iff] at hp; omega
      have hlt : ¬ ((k : Int) < (c.length : Int)) := by omega
      have hx0 : wr.heap[w.heap.size]? = some (.cells #[.int .i64 0, .int .i64 0, .int .i64 0] 32 (0, 0)) := (hb.block _ (by omega)).trans (heap_alloc_new w _)
      have z0 : wr.cell? ⟨w.heap.size + 1, 0, none⟩ = some (.int .i64 a) := by rw [cell_of_row _ _ _ _ _ _ hx]; rfl
      have z1 : wr.cell? ⟨w.heap.size + 1, 1, none⟩ = some (.int .i64 b) := by rw [cell_of_row _ _ _ _ _ _ hx]; rfl
      have z2 : wr.cell? ⟨w.heap.size + 1, 2, none⟩ = some (.int .i64 d) := by rw [cell_of_row _ _ _ _ _ _ hx]; rfl
      have y0 : wr.cell? ⟨w.heap.size, 0, none⟩ = some (.int .i64 0) := by rw [cell_of_row _ _ _ _ _ _ hx0]; rfl
      have y1 : wr.cell? ⟨w.heap.size, 1, none⟩ = some (.int .i64 0) := by rw [cell_of_row _ _ _ _ _ _ hx0]; rfl
      have y2 : wr.cell? ⟨w.heap.size, 2, none⟩ = some (.int .i64 0) := by rw [cell_of_row _ _ _ _ _ _ hx0]; rfl
      have g0 := blk_frozen hx0 0
      have g1 := blk_frozen hx0 1
      have g2 := blk_frozen hx0 2
      have HBW := Lib.hid hbw
      have HFIN := Lib.hid (show cpxW (grpW n) c = ⟨a, b, d⟩ by rw [← HS.out.1, hkl, List.take_length]; rfl)
      clear hp hb hx hx0 hbw
      go_wp2_with fail
      rw [HFIN.out]
      refine bodyPost_ret (v := val3 ⟨a, b, d⟩) (by simp [results, Tryz.results9, go_sem, val3, y0, y1, y2]) rfl ⟨rfl, ?_⟩
      exact ((HBW.out.setCell (Nat.le_refl _) _).setCell (Nat.le_refl _) _).setCell (Nat.le_refl _) _
    · have hkl : k < c.length := (List.getElem?_eq_some_iff.1 hp).1
      have hlt : (k : Int) < (c.length : Int) := by omega
      obtain ⟨ad, rfl, hPa, hj0, pv, hpv, hpi⟩ := HCX.out.get hp
      obtain ⟨A3, cap3, rfl⟩ := hpi.slice
      have hal := Alike.below hbw HP.out
      have f0 : wr.cell? (ad.add (k * 2)) = some (.string p.1) := (hal.cell (by rw [add_lt]; exact hPa)).trans hj0
      have f1 := cell_add1 _ _ _ ((hal.cell (a := ad.add (k * 2 + 1)) (by rw [add_lt]; exact hPa)).trans hpv)
      obtain ⟨hsp, _⟩ := HOC.out.2.2 k p hp
      have hp4 := hsp.2.1
      have hz := blk_lt hx
      have HPI := Lib.hid hpi
      have HSP := Lib.hid hsp
      have HLP := Lib.hid hp
      have HX := Lib.hid hx
      have HB := Lib.hid hb
      clear hp hj0 hpv hpi hal hsp hPa hb hbw hx
      go_wp2_with fail
      obtain ⟨W0, rfl⟩ : ∃ W0, W0 = wr := ⟨wr, rfl⟩
      go_loopw [23] (fun v23 wr' => ∃ (j : Nat) (x y z : Int), v23 = .int .i64 j ∧ j ≤ p.2.length ∧ Below (w.heap.size + 1) (w.alloc (.cells #[.int .i64 0, .int .i64 0, .int .i64 0] 32)) wr'
          ∧ wr'.heap[w.heap.size + 1]? = some (.cells #[.int .i64 x, .int .i64 y, .int .i64 z] 32 (0, 0)) ∧ Hid (add3 ⟨a, b, d⟩ (sum3 (simW (grpW n)) (p.2.take j)) = ⟨x, y, z⟩ ∧ okT (1024 * k + 256 * j) ⟨x, y, z⟩))
        (fun v23 _ => p.2.length - (intOf v23).toNat)
      case atStart => exact ⟨0, a, b, d, rfl, Nat.zero_le _, HB.out.alloc (by omega) _, (heap_alloc_old _ _ hz).trans HX.out, Lib.hid ⟨by simp [sum3, add3_zero], HS.out.2⟩⟩
      case round =>
        obtain ⟨j, x, y, z, rfl, hj, hb, hx, H3⟩ := hrel
        rcases hs : p.2[j]? with _ | s
        · have hjl : j = p.2.length := by rw [List.getElem?_eq_none_iff] at hs; omega
          have hlt2 : ¬ ((j : Int) < (p.2.length : Int)) := by omega
          have HX2 := Lib.hid hx
          have HB2 := Lib.hid hb
          have HT := Lib.hid (show sum3 (fun p : Cmp => partsW (grpW n) p.2) (c.take (k + 1)) = ⟨x, y, z⟩ by rw [sum3_take _ HLP.out, HS.out.1, ← H3.out.1, hjl, List.take_length]; rfl)
          have HK := Lib.hid (show okT (1024 * (k + 1)) ⟨x, y, z⟩ from H3.out.2.mono (by omega))
          clear hs hb hx
          go_wp2_with fail
          refine ⟨⟨k + 1, x, y, z, by go_num, by omega, HB2.out, HX2.out, Lib.hid ⟨HT.out, HK.out⟩⟩, by simp [intOf]; omega⟩
        · have hjl : j < p.2.length := (List.getElem?_eq_some_iff.1 hs).1
          have hlt2 : (j : Int) < (p.2.length : Int) := by omega
          obtain ⟨ad3, rfl, hPa3, hsi⟩ := HPI.out.get hs
          have hbw : Below w.heap.size w wr := ((Below.refl _ _).alloc (Nat.le_refl _) _).trans (hb.mono (by omega))
          have hal := Alike.below hbw HP.out
          obtain ⟨sv, ⟨d0, d1, d2, d3, d4, d5, d6, d7, d8⟩, hgi⟩ := hsi.cells hPa3 hal
          obtain ⟨A4, cap4, rfl⟩ := hgi.slice
          have hss := (HSP.out.2.2 j s hs).1
          have hz2 := blk_lt hx
          have HSS := Lib.hid hss
          have HLS := Lib.hid hs
          have HX2 := Lib.hid hx
          have HB2 := Lib.hid hb
          have HBW := Lib.hid hbw
          have HAL := Lib.hid hal
          have HGI := Lib.hid hgi
          clear hs hsi hal hgi hss hPa3 hb hbw hx
          go_upto_region 10 with fail
          rename_i K1 hK1 K0 hK0
          obtain ⟨s1, s2, s3, hsw⟩ : ∃ s1 s2 s3, simW (grpW n) s = ⟨s1, s2, s3⟩ := ⟨_, _, _, rfl⟩
          have hok2 := HSW.out s HSS.out
          have hok1 := H3.out.2
          rw [hsw] at hok2
          have HSUM := Lib.hid (show add3 ⟨a, b, d⟩ (sum3 (simW (grpW n)) (p.2.take (j + 1))) = ⟨x + s1, y + s2, z + s3⟩ by
            rw [sum3_take _ HLS.out, ← add3_assoc, H3.out.1, hsw]; rfl)
          have HOK := Lib.hid (show okT (1024 * k + 256 * (j + 1)) ⟨x + s1, y + s2, z + s3⟩ from (hok1.add hok2).mono (by omega))
          have HWR := Lib.hid (show IntKind.i64.wrap (x + s1) = x + s1 ∧ IntKind.i64.wrap (y + s2) = y + s2 ∧ IntKind.i64.wrap (z + s3) = z + s3 by
            simp only [okT] at hok1 hok2
            refine ⟨?_, ?_, ?_⟩ <;> (rw [IntKind.wrap_i64]; omega))
          have CUT : ∀ u10 u11 u12 u26 u27 u29 u30 u31 u32 u33 u34 u35 u36 u37 u38 u39 u40 u41 u42 u43 u44 u45 u46 u47 u48 u49 u50 u51 u52 u53 u54 u55 u56 u57 u58 u59 u60 u61 u62 u63 u64 u65 u66 u67 u68 u69 : Value, ∀ (o : Obj) (wx : World), Hid (Below (wr.heap.size + 1) (wr.alloc o) wx) → Hid (wx.heap[wr.heap.size + 1]? = some (.cells #[.int .i64 s1, .int .i64 s2, .int .i64 s3] 32 (0, 0))) → K1 { tmps := #[.slice (some ad) c.length c0, undef, .pointer (some ⟨w.heap.size, 0, none⟩), .pointer (some ⟨w.heap.size + 1, 0, none⟩), undef, .pointer (some ⟨W0.heap.size, 0, none⟩), undef, .pointer (some ⟨wr.heap.size, 0, none⟩), .pointer (some ⟨wr.heap.size + 1, 0, none⟩), undef, u10, u11, u12, .agg #[.int .i64 0, .int .i64 0, .int .i64 0], .slice (some ad) c.length c0, .int .i64 c.length, .int .i64 k, .bool true, .pointer (some (ad.add (k * 2))), .agg #[.string p.1, .slice (some ad3) p.2.length cap3], .pointer (some ⟨W0.heap.size, 1, none⟩), .slice (some ad3) p.2.length cap3, .int .i64 p.2.length, .int .i64 j, .bool true, .pointer (some (ad3.add (j * 9))), u26, u27, .pointer (some ⟨wr.heap.size, 0, none⟩), u29, u30, u31, u32, u33, u34, u35, u36, u37, u38, u39, u40, u41, u42, u43, u44, u45, u46, u47, u48, u49, u50, u51, u52, u53, u54, u55, u56, u57, u58, u59, u60, u61, u62, u63, u64, u65, u66, u67, u68, u69, u70, undef], defers := [] } wx := by
            intro u10 u11 u12 u26 u27 u29 u30 u31 u32 u33 u34 u35 u36 u37 u38 u39 u40 u41 u42 u43 u44 u45 u46 u47 u48 u49 u50 u51 u52 u53 u54 u55 u56 u57 u58 u59 u60 u61 u62 u63 u64 u65 u66 u67 u68 u69 o wx hbx hxx
            apply hK1
            clear hK1 hK0 K0
            have hxa : wx.heap[w.heap.size + 1]? = some (.cells #[.int .i64 x, .int .i64 y, .int .i64 z] 32 (0, 0)) := (hbx.out.block _ (by omega)).trans ((heap_alloc_old _ _ hz2).trans HX2.out)
            have hxb := hxx.out
            have hne : ¬ w.heap.size + 1 = wr.heap.size + 1 := by omega
            have z0 : wx.cell? ⟨w.heap.size + 1, 0, none⟩ = some (.int .i64 x) := by rw [cell_of_row _ _ _ _ _ _ hxa]; rfl
            have z1 : wx.cell? ⟨w.heap.size + 1, 1, none⟩ = some (.int .i64 y) := by rw [cell_of_row _ _ _ _ _ _ hxa]; rfl
            have z2 : wx.cell? ⟨w.heap.size + 1, 2, none⟩ = some (.int .i64 z) := by rw [cell_of_row _ _ _ _ _ _ hxa]; rfl
            have y0 : wx.cell? ⟨wr.heap.size + 1, 0, none⟩ = some (.int .i64 s1) := by rw [cell_of_row _ _ _ _ _ _ hxb]; rfl
            have y1 : wx.cell? ⟨wr.heap.size + 1, 1, none⟩ = some (.int .i64 s2) := by rw [cell_of_row _ _ _ _ _ _ hxb]; rfl
            have y2 : wx.cell? ⟨wr.heap.size + 1, 2, none⟩ = some (.int .i64 s3) := by rw [cell_of_row _ _ _ _ _ _ hxb]; rfl
            have g0 := blk_frozen hxa 0
            have g1 := blk_frozen hxa 1
            have g2 := blk_frozen hxa 2
            obtain ⟨wr0, wr1, wr2⟩ := HWR.out
            have HXA := Lib.hid hxa
            clear hxa hxb hok1 hok2
            go_wp2_with fail
            refine wp_loop_rounds 4 ?_
            rw [rounds_succ]
            go_wp2_with fail
            go_region
            go_wp2_with fail
            rw [rounds_succ]
            go_wp2_with fail
            go_region
            go_wp2_with fail
            rw [rounds_succ]
            go_wp2_with fail
            go_region
            go_wp2_with fail
            rw [rounds_succ]
            go_wp2_with fail
            refine ⟨⟨j + 1, x + s1, y + s2, z + s3, by go_num, by omega, ?_, set3 HXA.out, Lib.hid ⟨HSUM.out, HOK.out⟩⟩, by simp [intOf]; omega⟩
            exact below_drew3 (((((HB2.out.alloc (by omega) _).trans (hbx.out.mono (by omega))).setCell (Nat.le_refl _) _).setCell (Nat.le_refl _) _).setCell (Nat.le_refl _) _)
          clear hK1
          have hway : ((s.kind = 0 ∧ s1 = 0 ∧ s2 = 0 ∧ s3 = 1 ∨ s.kind = 1 ∧ s1 = 0 ∧ s2 = 0 ∧ s3 = 0 ∨ s.kind = 2 ∧ s1 = 1 ∧ s2 = 0 ∧ s3 = 0) ∨ (s.kind = 14 ∨ s.kind = 15) ∧ grpW n s.subs = ⟨s1, s2, s3⟩) ∨ (s.kind == 0) = false ∧ (s.kind == 1) = false ∧ (s.kind == 2) = false ∧ (s.kind == 14) = false ∧ (s.kind == 15) = false ∧ s1 = 0 ∧ s2 = 1 ∧ s3 = 0 := by
            unfold simW at hsw
            split at hsw
            · injection hsw with e1 e2 e3; exact .inl (.inl (.inl ⟨by assumption, e1.symm, e2.symm, e3.symm⟩))
            split at hsw
            · injection hsw with e1 e2 e3; exact .inl (.inl (.inr (.inl ⟨by assumption, e1.symm, e2.symm, e3.symm⟩)))
            split at hsw
            · injection hsw with e1 e2 e3; exact .inl (.inl (.inr (.inr ⟨by assumption, e1.symm, e2.symm, e3.symm⟩)))
            split at hsw
            · exact .inl (.inr ⟨by assumption, hsw⟩)
            · injection hsw with e1 e2 e3
              exact .inr ⟨by simpa using by assumption, by simpa using by assumption, by simpa using by assumption, by simp; omega, by simp; omega, e1.symm, e2.symm, e3.symm⟩
          clear hsw hok1 hok2
          rcases hway with (hway | ⟨hk1, hsub⟩) | ⟨n0, n1, n2, n14, n15, rfl, rfl, rfl⟩
          · clear HSS HGI HAL HBW
            rcases hway with ⟨x0, rfl, rfl, rfl⟩ | ⟨x0, rfl, rfl, rfl⟩ | ⟨x0, rfl, rfl, rfl⟩
            all_goals
              go_wp2_with fail
              apply CUT
              · exact Lib.hid (cutB0 wr _ _)
              · exact Lib.hid (alloc2_new wr _ _)
          · obtain ⟨m, rfl⟩ : ∃ m, n = m + 1 := by
              cases n with
              | zero => 
                rcases HSS.out.2.2 with h | h | h | h | h
                · omega
                · omega
                · omega
                · omega
                · exact h.2.elim
              | succ m => exact ⟨m, rfl⟩
            have hgo : grpOK (m + 1) s.subs := by
              rcases HSS.out.2.2 with h | h | h | h | h
              · omega
              · omega
              · omega
              · omega
              · exact h.2
            have HGO := Lib.hid hgo.2.2
            have hq3 := hgo.2.1
            have HCM := Lib.hid (HC.out m rfl)
            have HSUB := Lib.hid (show maxL (cpxW (grpW m)) s.subs = ⟨s1, s2, s3⟩ from hsub)
            have hway : s.kind = 14 ∨ (s.kind == 14) = false ∧ s.kind = 15 := by
              rcases hk1 with h | h
              · exact .inl h
              · exact .inr ⟨by simp; omega, h⟩
            clear HSS hgo hsub hk1
            rcases hway with x0 | ⟨x0, x1⟩
            all_goals
              go_wp2_with fail
              obtain ⟨W1, HW1⟩ : ∃ W1, W1 = wr := ⟨wr, rfl⟩
              subst HW1
              go_loopw [46] (fun v46 wr' => ∃ (q : Nat) (t1 t2 t3 : Int), v46 = .int .i64 q ∧ q ≤ s.subs.length ∧ Hid (∃ o, Below (W1.heap.size + 1) (W1.alloc o) wr') ∧ wr'.heap[W1.heap.size + 1]? = some (.cells #[.int .i64 t1, .int .i64 t2, .int .i64 t3] 32 (0, 0))
                  ∧ Hid (maxL (cpxW (grpW m)) (s.subs.take q) = ⟨t1, t2, t3⟩))
                (fun v46 _ => s.subs.length - (intOf v46).toNat)
              case atStart => 
                exact ⟨0, 0, 0, 0, rfl, Nat.zero_le _, Lib.hid ⟨_, cutB0 W1 _ _⟩, alloc2_new W1 _ _, Lib.hid rfl⟩
              case round =>
                obtain ⟨q, t1, t2, t3, rfl, hq, HQ, hxq, HT⟩ := hrel
                obtain ⟨o, hbo⟩ := HQ.out
                rcases hc' : s.subs[q]? with _ | c'
                · have hql : q = s.subs.length := by rw [List.getElem?_eq_none_iff] at hc'; omega
                  have hlt3 : ¬ ((q : Int) < (s.subs.length : Int)) := by omega
                  have hts := HT.out
                  rw [hql, List.take_length, HSUB.out] at hts
                  injection hts with e1 e2 e3
                  subst e1 e2 e3
                  have HXQ := Lib.hid hxq
                  have HBO := Lib.hid hbo
                  clear hc' hxq hbo
                  go_wp2_with fail
                  apply CUT (o := o)
                  · exact HBO
                  · exact HXQ
                · have hql : q < s.subs.length := (List.getElem?_eq_some_iff.1 hc').1
                  have hlt3 : (q : Int) < (s.subs.length : Int) := by omega
                  obtain ⟨D', ad5, rfl, rfl, hPa5, cv, hcv, hcx⟩ := HGI.out.get hc'
                  obtain ⟨A6, cap6, rfl⟩ := hcx.slice
                  have hPW : ∀ b, P b → b < W1.heap.size := fun b hb' => Nat.lt_of_lt_of_le (HP.out b hb') HBW.out.size
                  have hal : Alike P w wr := (HAL.out.alloc hPW o).trans (Alike.below hbo fun b hb' => Nat.lt_succ_of_lt (hPW b hb'))
                  have e0 : wr.cell? (ad5.add q) = some (.slice A6 c'.length cap6) := (hal.cell (by rw [add_lt]; exact hPa5)).trans hcv
                  have hz6 := blk_lt hxq
                  obtain ⟨v1, v2, v3, hcw⟩ : ∃ v1 v2 v3, cpxW (grpW m) c' = ⟨v1, v2, v3⟩ := ⟨_, _, _, rfl⟩
                  have hcall := HCM.out D' wr P _ c' (hcx.turn (fun _ h => h) hal fun v l h => h.turn (fun _ h => h) hal) (fun b hb' => by have := hPW b hb'; omega) (HGO.out c' (List.mem_of_getElem? hc'))
                  rw [hcw] at hcall
                  have HCALL := Lib.hid hcall
                  have HM := Lib.hid (show maxL (cpxW (grpW m)) (s.subs.take (q + 1)) = max3 ⟨t1, t2, t3⟩ ⟨v1, v2, v3⟩ by rw [maxL_take _ hc', HT.out, hcw])
                  have HXQ := Lib.hid hxq
                  have HBO := Lib.hid hbo
                  clear hc' hcv hcx hPa5 hal hcall hcw hxq hbo hPW
                  go_wp2_with fail
                  refine HCALL.out.mono ?_
                  rintro e w5 ⟨he, hb5⟩
                  have he' : e = .returned (.agg #[.int .i64 v1, .int .i64 v2, .int .i64 v3]) := he
                  subst he'
                  have hx5 : w5.heap[W1.heap.size + 1]? = some (.cells #[.int .i64 t1, .int .i64 t2, .int .i64 t3] 32 (0, 0)) := (hb5.block _ hz6).trans HXQ.out
                  have hz7 := blk_lt hx5
                  have y0 : w5.cell? ⟨W1.heap.size + 1, 0, none⟩ = some (.int .i64 t1) := by rw [cell_of_row _ _ _ _ _ _ hx5]; rfl
                  have y1 : w5.cell? ⟨W1.heap.size + 1, 1, none⟩ = some (.int .i64 t2) := by rw [cell_of_row _ _ _ _ _ _ hx5]; rfl
                  have y2 : w5.cell? ⟨W1.heap.size + 1, 2, none⟩ = some (.int .i64 t3) := by rw [cell_of_row _ _ _ _ _ _ hx5]; rfl
                  have HX5 := Lib.hid hx5
                  have HB5 := Lib.hid (HBO.out.trans (hb5.mono (by omega)))
                  clear he hb5 hx5
                  go_wp2_with fail
                  refine (lighter_any t1 t2 t3 v1 v2 v3 _).mono ?_
                  rintro e w6 ⟨rfl, hb6⟩
                  have hx6 : w6.heap[W1.heap.size + 1]? = some (.cells #[.int .i64 t1, .int .i64 t2, .int .i64 t3] 32 (0, 0)) := (hb6.block _ (by simp; omega)).trans ((heap_alloc_old _ _ hz7).trans HX5.out)
                  have hx7 : w6.heap[w5.heap.size]? = some (.cells #[.int .i64 v1, .int .i64 v2, .int .i64 v3] 32 (0, 0)) := (hb6.block _ (by simp)).trans (heap_alloc_new w5 _)
                  have hbz : Below (W1.heap.size + 1) (W1.alloc o) w6 := (HB5.out.alloc (by omega) _).trans (hb6.mono (by simp; omega))
                  have c0 : w6.cell? ⟨w5.heap.size, 0, none⟩ = some (.int .i64 v1) := by rw [cell_of_row _ _ _ _ _ _ hx7]; rfl
                  have c1 : w6.cell? ⟨w5.heap.size, 1, none⟩ = some (.int .i64 v2) := by rw [cell_of_row _ _ _ _ _ _ hx7]; rfl
                  have c2 : w6.cell? ⟨w5.heap.size, 2, none⟩ = some (.int .i64 v3) := by rw [cell_of_row _ _ _ _ _ _ hx7]; rfl
                  have g0 := blk_frozen hx6 0
                  have g1 := blk_frozen hx6 1
                  have g2 := blk_frozen hx6 2
                  have k0 : w6.cell? ⟨W1.heap.size + 1, 0, none⟩ = some (.int .i64 t1) := by rw [cell_of_row _ _ _ _ _ _ hx6]; rfl
                  have k1 : w6.cell? ⟨W1.heap.size + 1, 1, none⟩ = some (.int .i64 t2) := by rw [cell_of_row _ _ _ _ _ _ hx6]; rfl
                  have k2 : w6.cell? ⟨W1.heap.size + 1, 2, none⟩ = some (.int .i64 t3) := by rw [cell_of_row _ _ _ _ _ _ hx6]; rfl
                  have HX6 := Lib.hid hx6
                  have HBZ := Lib.hid hbz
                  clear hx6 hx7 hbz hb6
                  rcases hl : lt3 t1 t2 t3 v1 v2 v3 with _ | _
                  · have HM2 := Lib.hid (show maxL (cpxW (grpW m)) (s.subs.take (q + 1)) = ⟨t1, t2, t3⟩ by rw [HM.out, max3, ltT, if_neg (by rw [hl]; simp)])
                    go_wp2_with fail
                    exact ⟨⟨q + 1, t1, t2, t3, by go_num, by omega, Lib.hid ⟨o, HBZ.out⟩, HX6.out, HM2⟩, by simp [intOf]; omega⟩
                  · have HM2 := Lib.hid (show maxL (cpxW (grpW m)) (s.subs.take (q + 1)) = ⟨v1, v2, v3⟩ by rw [HM.out, max3, ltT, if_pos (by rw [hl])])
                    go_wp2_with fail
                    exact ⟨⟨q + 1, v1, v2, v3, by go_num, by omega, Lib.hid ⟨o, ((HBZ.out.setCell (Nat.le_refl _) _).setCell (Nat.le_refl _) _).setCell (Nat.le_refl _) _⟩, set3 HX6.out, HM2⟩, by simp [intOf]; omega⟩
          · clear HSS HGI HAL HBW
            go_wp2_with fail
            apply CUT
            · exact Lib.hid (cutB0 wr _ _)
            · exact Lib.hid (alloc2_new wr _ _)
theorem weight_any : ∀ n, n ≤ 2 → WeightC n := by
  intro n
  induction n with
  | zero => intro h; exact weight_step 0 h fun m hm => by omega
  | succ n ih =>
    intro h
    refine weight_step (n + 1) h fun m hm => ?_
    injection hm with hm
    exact hm ▸ ih (Nat.le_of_succ_le h)
end Go.Proofs.YtoindammaphefaaGreatDoor
