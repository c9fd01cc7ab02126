/- The walk of the reference's Group: it answers true only at selectors that are as they should be. -/
import Derived.Test.YtoindammaphefaaGreatDoorGets
import Derived.Test.YtoindammaphefaaGreatDoorWcomb
namespace Go.Proofs.YtoindammaphefaaGreatDoor
open Go.RowKit

set_option maxHeartbeats 8000000 in
set_option maxRecDepth 100000 in
theorem group_step (n : Nat) (hn0 : 1 ≤ n) (hn : n ≤ 100) (hC : 1 < n → GroupC (n - 1)) : GroupC n := by
  intro D w P v l hv hsm hP
  obtain ⟨A, c0, rfl⟩ := hv.slice
  have hQ : grpOK n l ↔ 1 ≤ l.length ∧ l.length ≤ 3 ∧ ∀ c ∈ l, cpxOK (grpOK (n - 1)) c := by
    obtain ⟨m, rfl⟩ : ∃ m, n = m + 1 := ⟨n - 1, by omega⟩
    exact Iff.rfl
  have HQ := Lib.hid hQ
  obtain ⟨Q, hQQ⟩ : ∃ Q, Q = grpOK n l := ⟨_, rfl⟩
  rw [← hQQ] at HQ ⊢
  have HC := Lib.hid hC
  have HV := Lib.hid hv
  have HP := Lib.hid hP
  have HS := Lib.hid hsm
  have hlen : l.length ≤ 140737488351232 := by
    cases D with
    | zero => obtain ⟨rfl, _⟩ := hv; simp
    | succ D => have := hsm.1; omega
  clear hC hv hP hsm hQ hQQ
  go_enter Tryz.func6, Tryz.ntmps6
  go_wp2_with fail
  go_loopw [13] (fun v13 wr' => ∃ k : Nat, v13 = .int .i64 k ∧ k ≤ l.length ∧ Below w.heap.size w wr' ∧ Hid (∀ j c, j < k → l[j]? = some c → cpxOK (grpOK (n - 1)) c))
    (fun v13 _ => l.length - (intOf v13).toNat)
  case atStart => exact ⟨0, rfl, Nat.zero_le _, Below.refl _ _, fun j c h => by omega⟩
  case round =>
    obtain ⟨k, rfl, hk, hb, H⟩ := hrel
    rcases hc : l[k]? with _ | c
    · have hkl : k = l.length := by rw [List.getElem?_eq_none_iff] at hc; omega
      have hlt : ¬ ((k : Int) < (l.length : Int)) := by omega
      have hall : ∀ c ∈ l, cpxOK (grpOK (n - 1)) c := fun c hc => by
        obtain ⟨j, hj⟩ := List.mem_iff_getElem?.1 hc
        exact H.out j c (by rw [hkl]; exact (List.getElem?_eq_some_iff.1 hj).1) hj
      have HALL := Lib.hid hall
      have HB := Lib.hid hb
      clear hc hall hkl hb
      by_cases h1 : 1 ≤ (l.length : Int)
      · by_cases h3 : (l.length : Int) ≤ 3
        · go_wp2_with fail
          go_ret
          exact ret_true HB.out (HQ.out.2 ⟨by omega, by omega, HALL.out⟩)
        · go_wp2_with fail
          go_ret
          exact ret_false HB.out
      · go_wp2_with fail
        go_ret
        exact ret_false HB.out
    · have hkl : k < l.length := (List.getElem?_eq_some_iff.1 hc).1
      have hlt : (k : Int) < (l.length : Int) := by omega
      obtain ⟨D', ad, rfl, rfl, hPa, cv, hcv, hcx⟩ := HV.out.get hc
      obtain ⟨A2, cap2, rfl⟩ := hcx.slice
      have hal := Alike.below hb HP.out
      have e0 : wr.cell? (ad.add k) = some (.slice A2 c.length cap2) := (hal.cell (by rw [add_lt]; exact hPa)).trans hcv
      have hcm : c ∈ l := List.mem_of_getElem? hc
      have hsc := HS.out.2 c hcm
      have HCX := Lib.hid hcx
      have HSC := Lib.hid hsc
      have HL := Lib.hid hc
      have hclen : c.length ≤ 140737488351232 := by have := hsc.1; omega
      have HB := Lib.hid hb
      clear hc hcv hcx hal hcm hsc hPa hb
      by_cases g1 : (c.length : Int) < 1
      · go_wp2_with fail
        go_ret
        exact ret_false HB.out
      by_cases g4 : 4 < (c.length : Int)
      · go_wp2_with fail
        go_ret
        exact ret_false HB.out
      go_wp2_with fail
      obtain ⟨W0, rfl⟩ : ∃ W0, W0 = wr := ⟨wr, rfl⟩
      go_loopw [27] (fun v27 wr' => ∃ k2 : Nat, v27 = .int .i64 k2 ∧ k2 ≤ c.length ∧ Below w.heap.size w wr' ∧ Hid (∀ j p, j < k2 → c[j]? = some p → partsOK (grpOK (n - 1)) p.2 ∧ (0 < j → joinOK p.1)))
        (fun v27 _ => c.length - (intOf v27).toNat)
      case atStart => exact ⟨0, rfl, Nat.zero_le _, HB.out, fun j c h => by omega⟩
      case round =>
        obtain ⟨k2, rfl, hk2, hb, H2⟩ := hrel
        rcases hp : c[k2]? with _ | p
        · have hkl2 : k2 = c.length := by rw [List.getElem?_eq_none_iff] at hp; omega
          have hlt2 : ¬ ((k2 : Int) < (c.length : Int)) := by omega
          have HB2 := Lib.hid hb
          have hok : ∀ j c', j < k + 1 → l[j]? = some c' → cpxOK (grpOK (n - 1)) c' := fun j c' hj hc' => by
            by_cases hjk : j < k
            · exact H.out j c' hjk hc'
            · obtain rfl : j = k := by omega
              rw [HL.out] at hc'
              injection hc' with e
              subst e
              exact ⟨by omega, by omega, fun i p hp => H2.out i p (by rw [hkl2]; exact (List.getElem?_eq_some_iff.1 hp).1) hp⟩
          have HOK := Lib.hid hok
          clear hp hb hok hkl2
          go_wp2_with fail
          refine ⟨⟨k + 1, by go_num, by omega, HB2.out, HOK.out⟩, by simp [intOf]; omega⟩
        · have hkl2 : k2 < c.length := (List.getElem?_eq_some_iff.1 hp).1
          have hlt2 : (k2 : Int) < (c.length : Int) := by omega
          obtain ⟨ad2, rfl, hPa2, hj0, pv, hpv, hpi⟩ := HCX.out.get hp
          obtain ⟨A3, cap3, rfl⟩ := hpi.slice
          have hal := Alike.below hb HP.out
          have f0 : wr.cell? (ad2.add (k2 * 2)) = some (.string p.1) := (hal.cell (by rw [add_lt]; exact hPa2)).trans hj0
          have f1 := cell_add1 _ _ _ ((hal.cell (a := ad2.add (k2 * 2 + 1)) (by rw [add_lt]; exact hPa2)).trans hpv)
          have hpm : p ∈ c := List.mem_of_getElem? hp
          have hsp := HSC.out.2 p hpm
          have hplen : p.2.length ≤ 140737488351232 := by have := hsp.2.1; omega
          have hjlen : p.1.size ≤ 140737488351232 := hsp.1
          have HPI := Lib.hid hpi
          have HSP := Lib.hid hsp
          have HLP := Lib.hid hp
          have HB := Lib.hid hb
          clear hp hj0 hpv hpi hal hpm hsp hPa2 hb
          by_cases p1 : (p.2.length : Int) < 1
          · go_wp2_with fail
            go_ret
            exact ret_false (HB.out.alloc HB.out.size _)
          by_cases p4 : 4 < (p.2.length : Int)
          · go_wp2_with fail
            go_ret
            exact ret_false (HB.out.alloc HB.out.size _)
          have hway : (¬ (0 : Int) < (k2 : Int) ∨ (0 : Int) < (k2 : Int) ∧ (p.1.toList = [32] ∨ ¬ p.1.toList = [32] ∧ p.1.toList = [62] ∨ ¬ p.1.toList = [32] ∧ ¬ p.1.toList = [62] ∧ p.1.toList = [43]
              ∨ ¬ p.1.toList = [32] ∧ ¬ p.1.toList = [62] ∧ ¬ p.1.toList = [43] ∧ p.1.toList = [126])) ∧ (0 < k2 → joinOK p.1)
              ∨ (0 : Int) < (k2 : Int) ∧ ¬ p.1.toList = [32] ∧ ¬ p.1.toList = [62] ∧ ¬ p.1.toList = [43] ∧ ¬ p.1.toList = [126] := by
            have hb : ∀ l : List UInt8, p.1.toList = l → p.1 = ⟨l.toArray⟩ := fun l h => eq_of_data (by rw [← ByteArray.toList_eq]; simpa using h)
            by_cases h0 : (0 : Int) < (k2 : Int)
            · by_cases a1 : p.1.toList = [32]
              · exact .inl ⟨.inr ⟨h0, .inl a1⟩, fun _ => .inl (hb _ a1)⟩
              by_cases a2 : p.1.toList = [62]
              · exact .inl ⟨.inr ⟨h0, .inr (.inl ⟨a1, a2⟩)⟩, fun _ => .inr (.inl (hb _ a2))⟩
              by_cases a3 : p.1.toList = [43]
              · exact .inl ⟨.inr ⟨h0, .inr (.inr (.inl ⟨a1, a2, a3⟩))⟩, fun _ => .inr (.inr (.inl (hb _ a3)))⟩
              by_cases a4 : p.1.toList = [126]
              · exact .inl ⟨.inr ⟨h0, .inr (.inr (.inr ⟨a1, a2, a3, a4⟩))⟩, fun _ => .inr (.inr (.inr (hb _ a4)))⟩
              exact .inr ⟨h0, a1, a2, a3, a4⟩
            · exact .inl ⟨.inl h0, fun h => by omega⟩
          have bq : ∀ l : List UInt8, ¬ p.1.toList = l → (p.1.toList == l) = false := fun l h => by simpa using h
          have bp : ∀ l : List UInt8, p.1.toList = l → (p.1.toList == l) = true := fun l h => by simpa using h
          have BQ := Lib.hid bq
          have BP := Lib.hid bp
          clear bq bp
          rcases hway with ⟨hway, hjo⟩ | ⟨x0, x1, x2, x3, x4⟩
          · have HJ := Lib.hid hjo
            clear hjo
            rcases hway with x0 | ⟨x0, x1 | ⟨x1, x2⟩ | ⟨x1, x2, x3⟩ | ⟨x1, x2, x3, x4⟩⟩
            all_goals
              try have y1 := BQ.out _ x1
              try have y2 := BQ.out _ x2
              try have y3 := BQ.out _ x3
              try have z1 := BP.out _ x1
              try have z2 := BP.out _ x2
              try have z3 := BP.out _ x3
              try have z4 := BP.out _ x4
            all_goals
              go_wp2_with fail
              obtain ⟨W1, rfl⟩ : ∃ W1, W1 = wr := ⟨wr, rfl⟩
              go_loopw [69] (fun v69 wr' => ∃ k3 : Nat, v69 = .int .i64 k3 ∧ k3 ≤ p.2.length ∧ Below w.heap.size w wr' ∧ Hid (∀ j s, j < k3 → p.2[j]? = some s → simOK (grpOK (n - 1)) s ∧ (0 < j → 1 < s.kind)))
                (fun v69 _ => p.2.length - (intOf v69).toNat)
              case atStart => exact ⟨0, rfl, Nat.zero_le _, HB.out.alloc HB.out.size _, fun j c h => by omega⟩
              case round =>
                obtain ⟨k3, rfl, hk3, hb, H3⟩ := hrel
                rcases hs : p.2[k3]? with _ | s
                · have hkl3 : k3 = p.2.length := by rw [List.getElem?_eq_none_iff] at hs; omega
                  have hlt3 : ¬ ((k3 : Int) < (p.2.length : Int)) := by omega
                  have HB3 := Lib.hid hb
                  have hok : ∀ j p', j < k2 + 1 → c[j]? = some p' → partsOK (grpOK (n - 1)) p'.2 ∧ (0 < j → joinOK p'.1) := fun j p' hj hp' => by
                    by_cases hjk : j < k2
                    · exact H2.out j p' hjk hp'
                    · obtain rfl : j = k2 := by omega
                      rw [HLP.out] at hp'
                      injection hp' with e
                      subst e
                      exact ⟨⟨by omega, by omega, fun i s hs => H3.out i s (by rw [hkl3]; exact (List.getElem?_eq_some_iff.1 hs).1) hs⟩, HJ.out⟩
                  have HOK := Lib.hid hok
                  clear hs hb hok hkl3
                  go_wp2_with fail
                  refine ⟨⟨k2 + 1, by go_num, by omega, HB3.out, HOK.out⟩, by simp [intOf]; omega⟩
                · have hkl3 : k3 < p.2.length := (List.getElem?_eq_some_iff.1 hs).1
                  have hlt3 : (k3 : Int) < (p.2.length : Int) := by omega
                  obtain ⟨ad3, rfl, hPa3, hsi⟩ := HPI.out.get hs
                  have hal := Alike.below hb HP.out
                  obtain ⟨sv, ⟨d0, d1, d2, d3, d4, d5, d6, d7, d8⟩, hgi⟩ := hsi.cells hPa3 hal
                  obtain ⟨A4, cap4, rfl⟩ := hgi.slice
                  have hss := HSP.out.2.2 s (List.mem_of_getElem? hs)
                  have hal2 := hal.alloc (fun b hb' => Nat.lt_of_lt_of_le (HP.out b hb') hb.size) (.cells #[.int .i64 s.kind, .string s.name, .string s.value, .bool s.fold, .int .i64 s.a, .int .i64 s.b, .bool s.last, .bool s.ofType, .slice A4 s.subs.length cap4] 47)
                  have HSI := Lib.hid (simple_any n hn HC.out D' (wr.alloc (.cells #[.int .i64 s.kind, .string s.name, .string s.value, .bool s.fold, .int .i64 s.a, .int .i64 s.b, .bool s.last, .bool s.ofType, .slice A4 s.subs.length cap4] 47)) P A4 s.subs.length cap4 s
                    (hgi.turn (fun _ h => h) hal2) (fun b hb' => by have := HP.out b hb'; have := hb.size; simp; omega) hss.1 hss.2.1 hss.2.2)
                  have HLS := Lib.hid hs
                  have HB3 := Lib.hid hb
                  clear hs hsi hal hgi hss hal2 hPa3 hb
                  go_wp2_with fail
                  refine HSI.out.mono ?_
                  rintro e w5 ⟨sb, rfl, hb5, hsok⟩
                  have hb6 := (HB3.out.alloc HB3.out.size (.cells #[.int .i64 s.kind, .string s.name, .string s.value, .bool s.fold, .int .i64 s.a, .int .i64 s.b, .bool s.last, .bool s.ofType, .slice A4 s.subs.length cap4] 47)).trans (hb5.mono (by have := HB3.out.size; simp; omega))
                  have k0 : w5.cell? ⟨wr.heap.size, 0, none⟩ = some (.int .i64 s.kind) := (cell_lt_below hb5 (by simp)).trans (by go_simp)
                  have HB6 := Lib.hid hb6
                  rcases sb with _ | _
                  · clear hsok hb5 hb6
                    go_wp2_with fail
                    go_ret
                    exact ret_false HB6.out
                  · have HSOK := Lib.hid (hsok rfl)
                    clear hsok hb5 hb6
                    have hfin : (0 < k3 → 1 < s.kind) → ∀ j s', j < k3 + 1 → p.2[j]? = some s' → simOK (grpOK (n - 1)) s' ∧ (0 < j → 1 < s'.kind) := fun hkk j s' hj hs' => by
                      by_cases hjk : j < k3
                      · exact H3.out j s' hjk hs'
                      · obtain rfl : j = k3 := by omega
                        rw [HLS.out] at hs'
                        injection hs' with e
                        subst e
                        exact ⟨HSOK.out, hkk⟩
                    by_cases z0 : (0 : Int) < (k3 : Int)
                    · by_cases z1 : s.kind ≤ 1
                      · clear hfin
                        go_wp2_with fail
                        go_ret
                        exact ret_false HB6.out
                      · have HFIN := Lib.hid (hfin fun _ => by omega)
                        clear hfin
                        go_wp2_with fail
                        refine ⟨⟨k3 + 1, by go_num, by omega, HB6.out, HFIN.out⟩, by simp [intOf]; omega⟩
                    · have HFIN := Lib.hid (hfin fun h => by omega)
                      clear hfin
                      go_wp2_with fail
                      refine ⟨⟨k3 + 1, by go_num, by omega, HB6.out, HFIN.out⟩, by simp [intOf]; omega⟩
          · have y1 := BQ.out _ x1
            have y2 := BQ.out _ x2
            have y3 := BQ.out _ x3
            have y4 := BQ.out _ x4
            go_wp2_with fail
            go_ret
            exact ret_false (HB.out.alloc HB.out.size _)
theorem group_any : ∀ n, 1 ≤ n → n ≤ 100 → GroupC n := by
  intro n
  induction n with
  | zero => intro h; omega
  | succ n ih => intro _ h; exact group_step (n + 1) (by omega) h fun h1 => ih (by omega) (by omega)
end Go.Proofs.YtoindammaphefaaGreatDoor
