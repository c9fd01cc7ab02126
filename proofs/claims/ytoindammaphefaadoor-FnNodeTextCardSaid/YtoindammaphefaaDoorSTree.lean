/- The walk of the reference's Tree: what it lets through. No conditions beside the sizes that any text has. -/
import Derived.Test.YtoindammaphefaaDoorNTree
import Derived.Test.YtoindammaphefaaDoorSName
namespace Go.Proofs.YtoindammaphefaaDoor
open Go.RowKit

/-- What is known of node i of a tree that Tree lets through. -/
def nodeOK (l : List NodeA) (i : Nat) (n : NodeA) : Prop :=
  (i = 0 → n.parent = -1 ∧ n.kind = 2) ∧ (i ≠ 0 → 0 ≤ n.parent ∧ n.parent < i ∧ (∀ m, l[n.parent.toNat]? = some m → m.kind = 3 ∨ n.parent = 0 ∧ n.kind ≠ 1) ∧ (n.kind = 3 ∨ n.kind = 1 ∨ n.kind = 4) ∧ n.data.size ≤ 40)
def treeOK (l : List NodeA) : Prop := 1 ≤ l.length ∧ l.length ≤ 24 ∧ ∀ i n, l[i]? = some n → nodeOK l i n

set_option maxHeartbeats 40000000 in
set_option maxRecDepth 100000 in
theorem tree_any (v : Value) (l : List NodeA) (w : World) (hv : Tre .i64 w w.heap.size v l) (hs : small l) :
    Calls Tryd.prog 11 #[v] w fun e w' => BoolIf (treeOK l) w e w' := by
  obtain ⟨A, c, rfl, _hcap, hc⟩ := hv
  have hlen := hs.1
  have HC := Lib.hid hc
  have HS := Lib.hid hs.2
  clear hc hs
  go_enter Tryd.func11, Tryd.ntmps11
  go_wp2_with (fail)
  go_loopw [13] (fun v13 wr' => ∃ (k : Nat), v13 = .int .i64 k ∧ k ≤ l.length ∧ Below w.heap.size w wr' ∧ Hid (∀ j n, j < k → l[j]? = some n → nodeOK l j n))
    (fun v13 _wr => l.length - (intOf v13).toNat)
  case atStart => exact ⟨0, rfl, Nat.zero_le _, Below.refl _ _, fun j n hj => by omega⟩
  case round =>
    obtain ⟨k, rfl, hk, hb, H⟩ := hrel
    have STEP : ∀ n, l[k]? = some n → nodeOK l k n → Hid (∀ j n, j < k + 1 → l[j]? = some n → nodeOK l j n) := by
      intro n hn hok
      refine fun j m hj hm => ?_
      by_cases hjk : j < k
      · exact H.out j m hjk hm
      · have : j = k := by omega
        subst this
        rw [hn] at hm
        injection hm with hm
        subst hm
        exact hok
    replace STEP := Lib.hid STEP
    rcases hl : l[k]? with _ | p
    · have hlt : ¬ ((k : Int) < (l.length : Int)) := by rw [List.getElem?_eq_none_iff] at hl; omega
      have hkl : k = l.length := by rw [List.getElem?_eq_none_iff] at hl; omega
      clear hl
      by_cases z1 : (1 : Int) ≤ (l.length : Int)
      · by_cases z2 : (l.length : Int) ≤ 24
        · go_wp2_with (fail)
          go_ret
          exact ⟨true, rfl, hb, fun _ => ⟨by omega, by omega, fun i n hi => H.out i n (by have := (List.getElem?_eq_some_iff.1 hi).1; omega) hi⟩⟩
        · go_wp2_with (fail)
          go_ret
          exact ⟨false, rfl, hb, by simp⟩
      · go_wp2_with (fail)
        go_ret
        exact ⟨false, rfl, hb, by simp⟩
    · have hkl : k < l.length := (List.getElem?_eq_some_iff.1 hl).1
      have hlt : (k : Int) < (l.length : Int) := by omega
      obtain ⟨ad, rfl, hB, h0, h1, h2, h3, h4⟩ := HC.out k p hl
      have hm : p ∈ l := List.mem_of_getElem? hl
      obtain ⟨hpd, hpa⟩ := HS.out p hm
      have d0 := (hb.cell (by rw [add_lt]; exact hB)).trans h0
      have d1 := cell_add1 _ _ _ ((hb.cell (by rw [add_lt]; exact hB)).trans h1)
      have d2 := cell_add2 _ _ _ ((hb.cell (by rw [add_lt]; exact hB)).trans h2)
      have d3 := cell_add3 _ _ _ ((hb.cell (by rw [add_lt]; exact hB)).trans h3)
      obtain ⟨par, knd, dat, av, att⟩ := p
      simp only at d0 d1 d2 d3 hpd hpa h4
      obtain ⟨A', c', hav, hcap, hatt⟩ := h4
      subst hav
      have HL := Lib.hid hl
      have HT := Lib.hid hatt
      have HPA := Lib.hid hpa
      have hal : att.length ≤ 140737488351232 := hpa.1
      have hb1 := hb.alloc hb.size (.cells #[.int .i64 par, .int .i64 knd, .string dat, .slice A' att.length c'] 29)
      clear hl hm h0 h1 h2 h3 hatt hpa
      by_cases hk0 : k = 0
      · have bk : ((k : Int) == 0) = true := by simp [hk0]
        have HK0 := Lib.hid hk0
        clear hk0
        by_cases q1 : par = -1
        · subst q1
          by_cases q2 : knd = 2
          · subst q2
            by_cases q3 : (0 : Int) < (att.length : Int)
            · go_wp2_with (fail)
              go_ret
              exact ⟨false, rfl, hb1, by simp⟩
            · go_wp2_with (fail)
              refine ⟨⟨k + 1, by go_num, by omega, hb1, STEP.out _ HL.out ⟨fun _ => ⟨rfl, rfl⟩, fun h => absurd HK0.out h⟩⟩, by simp [intOf]; omega⟩
          · have b2 : (knd != 2) = true := by simpa using q2
            clear q2
            go_wp2_with (fail)
            go_ret
            exact ⟨false, rfl, hb1, by simp⟩
        · have b2 : (par != -1) = true := by simpa using q1
          clear q1
          go_wp2_with (fail)
          go_ret
          exact ⟨false, rfl, hb1, by simp⟩
      · have bk : ((k : Int) == 0) = false := by simp; omega
        by_cases q1 : par < 0
        · go_wp2_with (fail)
          go_ret
          exact ⟨false, rfl, hb1, by simp⟩
        by_cases q2 : (k : Int) ≤ par
        · go_wp2_with (fail)
          go_ret
          exact ⟨false, rfl, hb1, by simp⟩
        obtain ⟨q, rfl⟩ : ∃ q : Nat, par = q := ⟨par.toNat, by omega⟩
        obtain ⟨m, hm⟩ : ∃ m, l[q]? = some m := ⟨_, List.getElem?_eq_getElem (by omega)⟩
        obtain ⟨ad2, hA2, hB2, _m0, m1, _m2⟩ := HC.out q m hm
        obtain rfl : ad = ad2 := by injection hA2
        have d5 := cell_add1 _ _ _ ((hb1.cell (by rw [add_lt]; exact hB)).trans m1)
        have HM := Lib.hid hm
        have HK0 := Lib.hid hk0
        clear hm m1 hA2 hB2 hk0 _m0 _m2
        have hql : q < l.length := by omega
        by_cases c1 : m.kind = 3
        · have b5 : (m.kind != 3) = false := by simp [c1]
          have CP := Lib.hid (.inl c1 : m.kind = 3 ∨ (q : Int) = 0 ∧ knd ≠ 1)
          clear c1
          by_cases k3 : knd = 3
          · subst k3
            rcases hn : nameOK dat.data.toList
            · as_aux_lemma =>
                go_wp2_with (go_at_call 16; refine (name_any dat _ hpd).mono ?_; rw [hn]; rintro e w' ⟨rfl, rfl⟩)
                go_ret
                exact ⟨false, rfl, hb1, by simp⟩
            · by_cases r1 : 40 < (dat.size : Int)
              · as_aux_lemma =>
                  go_wp2_with (go_at_call 16; refine (name_any dat _ hpd).mono ?_; rw [hn]; rintro e w' ⟨rfl, rfl⟩)
                  go_ret
                  exact ⟨false, rfl, hb1, by simp⟩
              by_cases r2 : 4 < (att.length : Int)
              · as_aux_lemma =>
                  go_wp2_with (go_at_call 16; refine (name_any dat _ hpd).mono ?_; rw [hn]; rintro e w' ⟨rfl, rfl⟩)
                  go_ret
                  exact ⟨false, rfl, hb1, by simp⟩
              have OK := Lib.hid (STEP.out _ HL.out (⟨fun h => absurd h HK0.out, fun _ => ⟨by simp, by simp; omega, fun m' hm' => by (rw [show ((q : Int)).toNat = q by simp] at hm'; rw [HM.out] at hm'; injection hm' with hm'; subst hm'; exact CP.out), .inl rfl, by simp; omega⟩⟩))
              as_aux_lemma =>
                go_wp2_with (go_at_call 16; refine (name_any dat _ hpd).mono ?_; rw [hn]; rintro e w' ⟨rfl, rfl⟩)
                go_loop [111] (fun v111 => ∃ j : Nat, v111 = .int .i64 j ∧ j ≤ dat.size) (fun v111 => dat.size - (intOf v111).toNat)
                case atStart => exact ⟨0, rfl, Nat.zero_le _⟩
                case round =>
                  obtain ⟨j, rfl, hj⟩ := hrel
                  by_cases hjl : j < dat.size
                  · have hltj : (j : Int) < (dat.size : Int) := by omega
                    obtain ⟨ch, hch⟩ : ∃ ch, dat[j] = ch := ⟨_, rfl⟩
                    by_cases x1 : (ch.toNat : Int) < 32
                    · go_wp2_with (fail)
                      go_ret
                      exact ⟨false, rfl, hb1, by simp⟩
                    by_cases x2 : 126 < (ch.toNat : Int)
                    · go_wp2_with (fail)
                      go_ret
                      exact ⟨false, rfl, hb1, by simp⟩
                    · go_wp2_with (fail)
                      exact ⟨⟨j + 1, by go_num, by omega⟩, by simp [intOf]; omega⟩
                  · have hltj : ¬ (j : Int) < (dat.size : Int) := by omega
                    go_wp2_with (fail)
                    obtain ⟨W0, rfl⟩ : ∃ W0, W0 = wr := ⟨wr, rfl⟩
                    go_loopw [130] (fun v130 wr' => ∃ j : Nat, v130 = .int .i64 j ∧ j ≤ att.length ∧ Below w.heap.size w wr' ∧ wr'.heap[W0.heap.size]? = some (.cells #[.int .i64 q, .int .i64 3, .string dat, .slice A' att.length c'] 29 (0, 0)))
                      (fun v130 _wr => att.length - (intOf v130).toNat)
                    case atStart => exact ⟨0, rfl, Nat.zero_le _, hb1, heap_alloc_new _ _⟩
                    case round => as_aux_lemma =>
                      obtain ⟨j2, rfl, hj2, hb2, hx⟩ := hrel
                      have hgx := blk_lt hx
                      have k1 : wr.cell? ⟨W0.heap.size, 1, none⟩ = some (.int .i64 3) := by rw [cell_of_row _ _ _ _ _ _ hx]; rfl
                      have k3 : wr.cell? ⟨W0.heap.size, 3, none⟩ = some (.slice A' att.length c') := by rw [cell_of_row _ _ _ _ _ _ hx]; rfl
                      rcases hq : att[j2]? with _ | a
                      · have hltj : ¬ ((j2 : Int) < (att.length : Int)) := by rw [List.getElem?_eq_none_iff] at hq; omega
                        clear hq hx
                        go_wp2_with (fail)
                        exact ⟨⟨k + 1, by go_num, by omega, hb2, OK.out⟩, by simp [intOf]; omega⟩
                      · have hjl2 : j2 < att.length := (List.getElem?_eq_some_iff.1 hq).1
                        have hltj2 : (j2 : Int) < (att.length : Int) := by omega
                        obtain ⟨ad', rfl, hB', e0, e1⟩ := HT.out j2 a hq
                        have g0 := (hb2.cell (by rw [add_lt]; exact hB')).trans e0
                        have g1 := cell_add1 _ _ _ ((hb2.cell (by rw [add_lt]; exact hB')).trans e1)
                        obtain ⟨ha1, ha2⟩ := HPA.out.2 a (List.mem_of_getElem? hq)
                        have HX := Lib.hid hx
                        have hb3 := hb2.alloc hb2.size (.cells #[.string a.1, .string a.2] 51)
                        clear hq e0 e1 hx
                        rcases hn2 : nameOK a.1.data.toList
                        · go_wp2_with (go_at_call 16; refine (name_any a.1 _ ha1).mono ?_; rw [hn2]; rintro e w' ⟨rfl, rfl⟩)
                          go_ret
                          exact ⟨false, rfl, hb3, by simp⟩
                        by_cases r3 : 40 < (a.2.size : Int)
                        · go_wp2_with (go_at_call 16; refine (name_any a.1 _ ha1).mono ?_; rw [hn2]; rintro e w' ⟨rfl, rfl⟩)
                          go_ret
                          exact ⟨false, rfl, hb3, by simp⟩
                        go_wp2_with (go_at_call 16; refine (name_any a.1 _ ha1).mono ?_; rw [hn2]; rintro e w' ⟨rfl, rfl⟩)
                        go_loop [153] (fun v153 => ∃ j3 : Nat, v153 = .int .i64 j3 ∧ j3 ≤ a.2.size) (fun v153 => a.2.size - (intOf v153).toNat)
                        case atStart => exact ⟨0, rfl, Nat.zero_le _⟩
                        case round =>
                          obtain ⟨j3, rfl, hj3⟩ := hrel
                          by_cases hjl3 : j3 < a.2.size
                          · have hltj3 : (j3 : Int) < (a.2.size : Int) := by omega
                            obtain ⟨ch, hch⟩ : ∃ ch, a.2[j3] = ch := ⟨_, rfl⟩
                            by_cases x1 : (ch.toNat : Int) < 32
                            · go_wp2_with (fail)
                              go_ret
                              exact ⟨false, rfl, hb3, by simp⟩
                            by_cases x2 : 126 < (ch.toNat : Int)
                            · go_wp2_with (fail)
                              go_ret
                              exact ⟨false, rfl, hb3, by simp⟩
                            · go_wp2_with (fail)
                              exact ⟨⟨j3 + 1, by go_num, by omega⟩, by simp [intOf]; omega⟩
                          · have hltj3 : ¬ (j3 : Int) < (a.2.size : Int) := by omega
                            have hcc : (j2 : Int) ≤ (c' : Int) := by omega
                            go_wp2_with (fail)
                            obtain ⟨W5, rfl⟩ : ∃ W5, W5 = wr := ⟨wr, rfl⟩
                            go_loopw [174] (fun v174 wr' => ∃ j4 : Nat, v174 = .int .i64 j4 ∧ j4 ≤ j2 ∧ Below w.heap.size w wr' ∧ wr'.heap[W0.heap.size]? = some (.cells #[.int .i64 q, .int .i64 3, .string dat, .slice (some ad') att.length c'] 29 (0, 0)) ∧ wr'.heap[W5.heap.size]? = some (.cells #[.string a.1, .string a.2] 51 (0, 0)))
                              (fun v174 _wr => j2 - (intOf v174).toNat)
                            case atStart => exact ⟨0, rfl, Nat.zero_le _, hb3, (heap_alloc_old _ _ hgx).trans HX.out, heap_alloc_new _ _⟩
                            case round =>
                              obtain ⟨j4, rfl, hj4, hb4, hx4, hy4⟩ := hrel
                              by_cases hjl4 : j4 < j2
                              · have hltj4 : (j4 : Int) < (j2 : Int) := by omega
                                obtain ⟨b, hbq⟩ : ∃ b, att[j4]? = some b := ⟨_, List.getElem?_eq_getElem (by omega)⟩
                                obtain ⟨ad6, hA6, hB6, e0, e1⟩ := HT.out j4 b hbq
                                obtain rfl : ad' = ad6 := by injection hA6
                                have i0 := (hb4.cell (by rw [add_lt]; exact hB')).trans e0
                                have i1 := cell_add1 _ _ _ ((hb4.cell (by rw [add_lt]; exact hB')).trans e1)
                                have y0 : wr.cell? ⟨W5.heap.size, 0, none⟩ = some (.string a.1) := by rw [cell_of_row _ _ _ _ _ _ hy4]; rfl
                                have hy5 := blk_lt hy4
                                have hb6 := hb4.alloc hb4.size (.cells #[.string b.1, .string b.2] 51)
                                have HX4 := Lib.hid ((heap_alloc_old _ (.cells #[.string b.1, .string b.2] 51) (blk_lt hx4)).trans hx4)
                                have HY4 := Lib.hid ((heap_alloc_old _ (.cells #[.string b.1, .string b.2] 51) hy5).trans hy4)
                                clear hbq hA6 e0 e1 hx4 hy4 hB6
                                go_wp2_with (fail)
                                all_goals first
                                  | (go_ret
                                     exact ⟨false, rfl, hb6, by simp⟩)
                                  | exact ⟨⟨j4 + 1, by go_num, by omega, hb6, HX4.out, HY4.out⟩, by simp [intOf]; omega⟩
                              · have hltj4 : ¬ (j4 : Int) < (j2 : Int) := by omega
                                have HX4 := Lib.hid hx4
                                clear hx4 hy4
                                go_wp2_with (fail)
                                exact ⟨⟨j2 + 1, by go_num, by omega, hb4, HX4.out⟩, by simp [intOf]; omega⟩
          by_cases k1 : knd = 1
          · subst k1
            by_cases he0 : dat.toList = []
            · as_aux_lemma =>
                go_wp2_with (fail)
                go_ret
                exact ⟨false, rfl, hb1, by simp⟩
            · have he : dat.toList.isEmpty = false := by simpa using he0
              clear he0
              by_cases r1 : 40 < (dat.size : Int)
              · as_aux_lemma =>
                  go_wp2_with (fail)
                  go_ret
                  exact ⟨false, rfl, hb1, by simp⟩
              by_cases r2 : 4 < (att.length : Int)
              · as_aux_lemma =>
                  go_wp2_with (fail)
                  go_ret
                  exact ⟨false, rfl, hb1, by simp⟩
              have OK := Lib.hid (STEP.out _ HL.out (⟨fun h => absurd h HK0.out, fun _ => ⟨by simp, by simp; omega, fun m' hm' => by (rw [show ((q : Int)).toNat = q by simp] at hm'; rw [HM.out] at hm'; injection hm' with hm'; subst hm'; exact CP.out), .inr (.inl rfl), by simp; omega⟩⟩))
              as_aux_lemma =>
                go_wp2_with (fail)
                go_loop [111] (fun v111 => ∃ j : Nat, v111 = .int .i64 j ∧ j ≤ dat.size) (fun v111 => dat.size - (intOf v111).toNat)
                case atStart => exact ⟨0, rfl, Nat.zero_le _⟩
                case round =>
                  obtain ⟨j, rfl, hj⟩ := hrel
                  by_cases hjl : j < dat.size
                  · have hltj : (j : Int) < (dat.size : Int) := by omega
                    obtain ⟨ch, hch⟩ : ∃ ch, dat[j] = ch := ⟨_, rfl⟩
                    by_cases x1 : (ch.toNat : Int) < 32
                    · go_wp2_with (fail)
                      go_ret
                      exact ⟨false, rfl, hb1, by simp⟩
                    by_cases x2 : 126 < (ch.toNat : Int)
                    · go_wp2_with (fail)
                      go_ret
                      exact ⟨false, rfl, hb1, by simp⟩
                    · go_wp2_with (fail)
                      exact ⟨⟨j + 1, by go_num, by omega⟩, by simp [intOf]; omega⟩
                  · have hltj : ¬ (j : Int) < (dat.size : Int) := by omega
                    go_wp2_with (fail)
                    obtain ⟨W0, rfl⟩ : ∃ W0, W0 = wr := ⟨wr, rfl⟩
                    go_loopw [130] (fun v130 wr' => ∃ j : Nat, v130 = .int .i64 j ∧ j ≤ att.length ∧ Below w.heap.size w wr' ∧ wr'.heap[W0.heap.size]? = some (.cells #[.int .i64 q, .int .i64 1, .string dat, .slice A' att.length c'] 29 (0, 0)))
                      (fun v130 _wr => att.length - (intOf v130).toNat)
                    case atStart => exact ⟨0, rfl, Nat.zero_le _, hb1, heap_alloc_new _ _⟩
                    case round => as_aux_lemma =>
                      obtain ⟨j2, rfl, hj2, hb2, hx⟩ := hrel
                      have hgx := blk_lt hx
                      have k1 : wr.cell? ⟨W0.heap.size, 1, none⟩ = some (.int .i64 1) := by rw [cell_of_row _ _ _ _ _ _ hx]; rfl
                      have k3 : wr.cell? ⟨W0.heap.size, 3, none⟩ = some (.slice A' att.length c') := by rw [cell_of_row _ _ _ _ _ _ hx]; rfl
                      rcases hq : att[j2]? with _ | a
                      · have hltj : ¬ ((j2 : Int) < (att.length : Int)) := by rw [List.getElem?_eq_none_iff] at hq; omega
                        clear hq hx
                        go_wp2_with (fail)
                        exact ⟨⟨k + 1, by go_num, by omega, hb2, OK.out⟩, by simp [intOf]; omega⟩
                      · have hjl2 : j2 < att.length := (List.getElem?_eq_some_iff.1 hq).1
                        have hltj2 : (j2 : Int) < (att.length : Int) := by omega
                        obtain ⟨ad', rfl, hB', e0, e1⟩ := HT.out j2 a hq
                        have g0 := (hb2.cell (by rw [add_lt]; exact hB')).trans e0
                        have g1 := cell_add1 _ _ _ ((hb2.cell (by rw [add_lt]; exact hB')).trans e1)
                        obtain ⟨ha1, ha2⟩ := HPA.out.2 a (List.mem_of_getElem? hq)
                        have HX := Lib.hid hx
                        have hb3 := hb2.alloc hb2.size (.cells #[.string a.1, .string a.2] 51)
                        clear hq e0 e1 hx
                        go_wp2_with (fail)
                        go_ret
                        exact ⟨false, rfl, hb3, by simp⟩
          by_cases k4 : knd = 4
          · subst k4
            by_cases r1 : 40 < (dat.size : Int)
            · as_aux_lemma =>
                go_wp2_with (fail)
                go_ret
                exact ⟨false, rfl, hb1, by simp⟩
            by_cases r2 : 4 < (att.length : Int)
            · as_aux_lemma =>
                go_wp2_with (fail)
                go_ret
                exact ⟨false, rfl, hb1, by simp⟩
            have OK := Lib.hid (STEP.out _ HL.out (⟨fun h => absurd h HK0.out, fun _ => ⟨by simp, by simp; omega, fun m' hm' => by (rw [show ((q : Int)).toNat = q by simp] at hm'; rw [HM.out] at hm'; injection hm' with hm'; subst hm'; exact CP.out), .inr (.inr rfl), by simp; omega⟩⟩))
            as_aux_lemma =>
              go_wp2_with (fail)
              go_loop [111] (fun v111 => ∃ j : Nat, v111 = .int .i64 j ∧ j ≤ dat.size) (fun v111 => dat.size - (intOf v111).toNat)
              case atStart => exact ⟨0, rfl, Nat.zero_le _⟩
              case round =>
                obtain ⟨j, rfl, hj⟩ := hrel
                by_cases hjl : j < dat.size
                · have hltj : (j : Int) < (dat.size : Int) := by omega
                  obtain ⟨ch, hch⟩ : ∃ ch, dat[j] = ch := ⟨_, rfl⟩
                  by_cases x1 : (ch.toNat : Int) < 32
                  · go_wp2_with (fail)
                    go_ret
                    exact ⟨false, rfl, hb1, by simp⟩
                  by_cases x2 : 126 < (ch.toNat : Int)
                  · go_wp2_with (fail)
                    go_ret
                    exact ⟨false, rfl, hb1, by simp⟩
                  · go_wp2_with (fail)
                    exact ⟨⟨j + 1, by go_num, by omega⟩, by simp [intOf]; omega⟩
                · have hltj : ¬ (j : Int) < (dat.size : Int) := by omega
                  go_wp2_with (fail)
                  obtain ⟨W0, rfl⟩ : ∃ W0, W0 = wr := ⟨wr, rfl⟩
                  go_loopw [130] (fun v130 wr' => ∃ j : Nat, v130 = .int .i64 j ∧ j ≤ att.length ∧ Below w.heap.size w wr' ∧ wr'.heap[W0.heap.size]? = some (.cells #[.int .i64 q, .int .i64 4, .string dat, .slice A' att.length c'] 29 (0, 0)))
                    (fun v130 _wr => att.length - (intOf v130).toNat)
                  case atStart => exact ⟨0, rfl, Nat.zero_le _, hb1, heap_alloc_new _ _⟩
                  case round => as_aux_lemma =>
                    obtain ⟨j2, rfl, hj2, hb2, hx⟩ := hrel
                    have hgx := blk_lt hx
                    have k1 : wr.cell? ⟨W0.heap.size, 1, none⟩ = some (.int .i64 4) := by rw [cell_of_row _ _ _ _ _ _ hx]; rfl
                    have k3 : wr.cell? ⟨W0.heap.size, 3, none⟩ = some (.slice A' att.length c') := by rw [cell_of_row _ _ _ _ _ _ hx]; rfl
                    rcases hq : att[j2]? with _ | a
                    · have hltj : ¬ ((j2 : Int) < (att.length : Int)) := by rw [List.getElem?_eq_none_iff] at hq; omega
                      clear hq hx
                      go_wp2_with (fail)
                      exact ⟨⟨k + 1, by go_num, by omega, hb2, OK.out⟩, by simp [intOf]; omega⟩
                    · have hjl2 : j2 < att.length := (List.getElem?_eq_some_iff.1 hq).1
                      have hltj2 : (j2 : Int) < (att.length : Int) := by omega
                      obtain ⟨ad', rfl, hB', e0, e1⟩ := HT.out j2 a hq
                      have g0 := (hb2.cell (by rw [add_lt]; exact hB')).trans e0
                      have g1 := cell_add1 _ _ _ ((hb2.cell (by rw [add_lt]; exact hB')).trans e1)
                      obtain ⟨ha1, ha2⟩ := HPA.out.2 a (List.mem_of_getElem? hq)
                      have HX := Lib.hid hx
                      have hb3 := hb2.alloc hb2.size (.cells #[.string a.1, .string a.2] 51)
                      clear hq e0 e1 hx
                      go_wp2_with (fail)
                      go_ret
                      exact ⟨false, rfl, hb3, by simp⟩
          have b3 : (knd != 3) = true := by simpa using k3
          have b1 : (knd != 1) = true := by simpa using k1
          have b4 : (knd != 4) = true := by simpa using k4
          clear k3 k4 k1
          as_aux_lemma =>
            go_wp2_with (fail)
            go_ret
            exact ⟨false, rfl, hb1, by simp⟩
        · have b5 : (m.kind != 3) = true := by simp [c1]
          clear c1
          by_cases c2 : q = 0
          · have bq : ((q : Int) != 0) = false := by simp [c2]
            by_cases c3 : knd = 1
            · subst c3
              clear c2
              as_aux_lemma =>
                go_wp2_with (fail)
                go_ret
                exact ⟨false, rfl, hb1, by simp⟩
            have b11 : (knd == 1) = false := by simp [c3]
            have CP4 := Lib.hid (.inr ⟨by simp [c2], c3⟩ : m.kind = 3 ∨ (q : Int) = 0 ∧ knd ≠ 1)
            clear c2
            by_cases k3 : knd = 3
            · subst k3
              rcases hn : nameOK dat.data.toList
              · as_aux_lemma =>
                  go_wp2_with (go_at_call 16; refine (name_any dat _ hpd).mono ?_; rw [hn]; rintro e w' ⟨rfl, rfl⟩)
                  go_ret
                  exact ⟨false, rfl, hb1, by simp⟩
              · by_cases r1 : 40 < (dat.size : Int)
                · as_aux_lemma =>
                    go_wp2_with (go_at_call 16; refine (name_any dat _ hpd).mono ?_; rw [hn]; rintro e w' ⟨rfl, rfl⟩)
                    go_ret
                    exact ⟨false, rfl, hb1, by simp⟩
                by_cases r2 : 4 < (att.length : Int)
                · as_aux_lemma =>
                    go_wp2_with (go_at_call 16; refine (name_any dat _ hpd).mono ?_; rw [hn]; rintro e w' ⟨rfl, rfl⟩)
                    go_ret
                    exact ⟨false, rfl, hb1, by simp⟩
                have OK := Lib.hid (STEP.out _ HL.out (⟨fun h => absurd h HK0.out, fun _ => ⟨by simp, by simp; omega, fun m' hm' => by (rw [show ((q : Int)).toNat = q by simp] at hm'; rw [HM.out] at hm'; injection hm' with hm'; subst hm'; exact CP4.out), .inl rfl, by simp; omega⟩⟩))
                as_aux_lemma =>
                  go_wp2_with (go_at_call 16; refine (name_any dat _ hpd).mono ?_; rw [hn]; rintro e w' ⟨rfl, rfl⟩)
                  go_loop [111] (fun v111 => ∃ j : Nat, v111 = .int .i64 j ∧ j ≤ dat.size) (fun v111 => dat.size - (intOf v111).toNat)
                  case atStart => exact ⟨0, rfl, Nat.zero_le _⟩
                  case round =>
                    obtain ⟨j, rfl, hj⟩ := hrel
                    by_cases hjl : j < dat.size
                    · have hltj : (j : Int) < (dat.size : Int) := by omega
                      obtain ⟨ch, hch⟩ : ∃ ch, dat[j] = ch := ⟨_, rfl⟩
                      by_cases x1 : (ch.toNat : Int) < 32
                      · go_wp2_with (fail)
                        go_ret
                        exact ⟨false, rfl, hb1, by simp⟩
                      by_cases x2 : 126 < (ch.toNat : Int)
                      · go_wp2_with (fail)
                        go_ret
                        exact ⟨false, rfl, hb1, by simp⟩
                      · go_wp2_with (fail)
                        exact ⟨⟨j + 1, by go_num, by omega⟩, by simp [intOf]; omega⟩
                    · have hltj : ¬ (j : Int) < (dat.size : Int) := by omega
                      go_wp2_with (fail)
                      obtain ⟨W0, rfl⟩ : ∃ W0, W0 = wr := ⟨wr, rfl⟩
                      go_loopw [130] (fun v130 wr' => ∃ j : Nat, v130 = .int .i64 j ∧ j ≤ att.length ∧ Below w.heap.size w wr' ∧ wr'.heap[W0.heap.size]? = some (.cells #[.int .i64 q, .int .i64 3, .string dat, .slice A' att.length c'] 29 (0, 0)))
                        (fun v130 _wr => att.length - (intOf v130).toNat)
                      case atStart => exact ⟨0, rfl, Nat.zero_le _, hb1, heap_alloc_new _ _⟩
                      case round => as_aux_lemma =>
                        obtain ⟨j2, rfl, hj2, hb2, hx⟩ := hrel
                        have hgx := blk_lt hx
                        have k1 : wr.cell? ⟨W0.heap.size, 1, none⟩ = some (.int .i64 3) := by rw [cell_of_row _ _ _ _ _ _ hx]; rfl
                        have k3 : wr.cell? ⟨W0.heap.size, 3, none⟩ = some (.slice A' att.length c') := by rw [cell_of_row _ _ _ _ _ _ hx]; rfl
                        rcases hq : att[j2]? with _ | a
                        · have hltj : ¬ ((j2 : Int) < (att.length : Int)) := by rw [List.getElem?_eq_none_iff] at hq; omega
                          clear hq hx
                          go_wp2_with (fail)
                          exact ⟨⟨k + 1, by go_num, by omega, hb2, OK.out⟩, by simp [intOf]; omega⟩
                        · have hjl2 : j2 < att.length := (List.getElem?_eq_some_iff.1 hq).1
                          have hltj2 : (j2 : Int) < (att.length : Int) := by omega
                          obtain ⟨ad', rfl, hB', e0, e1⟩ := HT.out j2 a hq
                          have g0 := (hb2.cell (by rw [add_lt]; exact hB')).trans e0
                          have g1 := cell_add1 _ _ _ ((hb2.cell (by rw [add_lt]; exact hB')).trans e1)
                          obtain ⟨ha1, ha2⟩ := HPA.out.2 a (List.mem_of_getElem? hq)
                          have HX := Lib.hid hx
                          have hb3 := hb2.alloc hb2.size (.cells #[.string a.1, .string a.2] 51)
                          clear hq e0 e1 hx
                          rcases hn2 : nameOK a.1.data.toList
                          · go_wp2_with (go_at_call 16; refine (name_any a.1 _ ha1).mono ?_; rw [hn2]; rintro e w' ⟨rfl, rfl⟩)
                            go_ret
                            exact ⟨false, rfl, hb3, by simp⟩
                          by_cases r3 : 40 < (a.2.size : Int)
                          · go_wp2_with (go_at_call 16; refine (name_any a.1 _ ha1).mono ?_; rw [hn2]; rintro e w' ⟨rfl, rfl⟩)
                            go_ret
                            exact ⟨false, rfl, hb3, by simp⟩
                          go_wp2_with (go_at_call 16; refine (name_any a.1 _ ha1).mono ?_; rw [hn2]; rintro e w' ⟨rfl, rfl⟩)
                          go_loop [153] (fun v153 => ∃ j3 : Nat, v153 = .int .i64 j3 ∧ j3 ≤ a.2.size) (fun v153 => a.2.size - (intOf v153).toNat)
                          case atStart => exact ⟨0, rfl, Nat.zero_le _⟩
                          case round =>
                            obtain ⟨j3, rfl, hj3⟩ := hrel
                            by_cases hjl3 : j3 < a.2.size
                            · have hltj3 : (j3 : Int) < (a.2.size : Int) := by omega
                              obtain ⟨ch, hch⟩ : ∃ ch, a.2[j3] = ch := ⟨_, rfl⟩
                              by_cases x1 : (ch.toNat : Int) < 32
                              · go_wp2_with (fail)
                                go_ret
                                exact ⟨false, rfl, hb3, by simp⟩
                              by_cases x2 : 126 < (ch.toNat : Int)
                              · go_wp2_with (fail)
                                go_ret
                                exact ⟨false, rfl, hb3, by simp⟩
                              · go_wp2_with (fail)
                                exact ⟨⟨j3 + 1, by go_num, by omega⟩, by simp [intOf]; omega⟩
                            · have hltj3 : ¬ (j3 : Int) < (a.2.size : Int) := by omega
                              have hcc : (j2 : Int) ≤ (c' : Int) := by omega
                              go_wp2_with (fail)
                              obtain ⟨W5, rfl⟩ : ∃ W5, W5 = wr := ⟨wr, rfl⟩
                              go_loopw [174] (fun v174 wr' => ∃ j4 : Nat, v174 = .int .i64 j4 ∧ j4 ≤ j2 ∧ Below w.heap.size w wr' ∧ wr'.heap[W0.heap.size]? = some (.cells #[.int .i64 q, .int .i64 3, .string dat, .slice (some ad') att.length c'] 29 (0, 0)) ∧ wr'.heap[W5.heap.size]? = some (.cells #[.string a.1, .string a.2] 51 (0, 0)))
                                (fun v174 _wr => j2 - (intOf v174).toNat)
                              case atStart => exact ⟨0, rfl, Nat.zero_le _, hb3, (heap_alloc_old _ _ hgx).trans HX.out, heap_alloc_new _ _⟩
                              case round =>
                                obtain ⟨j4, rfl, hj4, hb4, hx4, hy4⟩ := hrel
                                by_cases hjl4 : j4 < j2
                                · have hltj4 : (j4 : Int) < (j2 : Int) := by omega
                                  obtain ⟨b, hbq⟩ : ∃ b, att[j4]? = some b := ⟨_, List.getElem?_eq_getElem (by omega)⟩
                                  obtain ⟨ad6, hA6, hB6, e0, e1⟩ := HT.out j4 b hbq
                                  obtain rfl : ad' = ad6 := by injection hA6
                                  have i0 := (hb4.cell (by rw [add_lt]; exact hB')).trans e0
                                  have i1 := cell_add1 _ _ _ ((hb4.cell (by rw [add_lt]; exact hB')).trans e1)
                                  have y0 : wr.cell? ⟨W5.heap.size, 0, none⟩ = some (.string a.1) := by rw [cell_of_row _ _ _ _ _ _ hy4]; rfl
                                  have hy5 := blk_lt hy4
                                  have hb6 := hb4.alloc hb4.size (.cells #[.string b.1, .string b.2] 51)
                                  have HX4 := Lib.hid ((heap_alloc_old _ (.cells #[.string b.1, .string b.2] 51) (blk_lt hx4)).trans hx4)
                                  have HY4 := Lib.hid ((heap_alloc_old _ (.cells #[.string b.1, .string b.2] 51) hy5).trans hy4)
                                  clear hbq hA6 e0 e1 hx4 hy4 hB6
                                  go_wp2_with (fail)
                                  all_goals first
                                    | (go_ret
                                       exact ⟨false, rfl, hb6, by simp⟩)
                                    | exact ⟨⟨j4 + 1, by go_num, by omega, hb6, HX4.out, HY4.out⟩, by simp [intOf]; omega⟩
                                · have hltj4 : ¬ (j4 : Int) < (j2 : Int) := by omega
                                  have HX4 := Lib.hid hx4
                                  clear hx4 hy4
                                  go_wp2_with (fail)
                                  exact ⟨⟨j2 + 1, by go_num, by omega, hb4, HX4.out⟩, by simp [intOf]; omega⟩
            by_cases k4 : knd = 4
            · subst k4
              by_cases r1 : 40 < (dat.size : Int)
              · as_aux_lemma =>
                  go_wp2_with (fail)
                  go_ret
                  exact ⟨false, rfl, hb1, by simp⟩
              by_cases r2 : 4 < (att.length : Int)
              · as_aux_lemma =>
                  go_wp2_with (fail)
                  go_ret
                  exact ⟨false, rfl, hb1, by simp⟩
              have OK := Lib.hid (STEP.out _ HL.out (⟨fun h => absurd h HK0.out, fun _ => ⟨by simp, by simp; omega, fun m' hm' => by (rw [show ((q : Int)).toNat = q by simp] at hm'; rw [HM.out] at hm'; injection hm' with hm'; subst hm'; exact CP4.out), .inr (.inr rfl), by simp; omega⟩⟩))
              as_aux_lemma =>
                go_wp2_with (fail)
                go_loop [111] (fun v111 => ∃ j : Nat, v111 = .int .i64 j ∧ j ≤ dat.size) (fun v111 => dat.size - (intOf v111).toNat)
                case atStart => exact ⟨0, rfl, Nat.zero_le _⟩
                case round =>
                  obtain ⟨j, rfl, hj⟩ := hrel
                  by_cases hjl : j < dat.size
                  · have hltj : (j : Int) < (dat.size : Int) := by omega
                    obtain ⟨ch, hch⟩ : ∃ ch, dat[j] = ch := ⟨_, rfl⟩
                    by_cases x1 : (ch.toNat : Int) < 32
                    · go_wp2_with (fail)
                      go_ret
                      exact ⟨false, rfl, hb1, by simp⟩
                    by_cases x2 : 126 < (ch.toNat : Int)
                    · go_wp2_with (fail)
                      go_ret
                      exact ⟨false, rfl, hb1, by simp⟩
                    · go_wp2_with (fail)
                      exact ⟨⟨j + 1, by go_num, by omega⟩, by simp [intOf]; omega⟩
                  · have hltj : ¬ (j : Int) < (dat.size : Int) := by omega
                    go_wp2_with (fail)
                    obtain ⟨W0, rfl⟩ : ∃ W0, W0 = wr := ⟨wr, rfl⟩
                    go_loopw [130] (fun v130 wr' => ∃ j : Nat, v130 = .int .i64 j ∧ j ≤ att.length ∧ Below w.heap.size w wr' ∧ wr'.heap[W0.heap.size]? = some (.cells #[.int .i64 q, .int .i64 4, .string dat, .slice A' att.length c'] 29 (0, 0)))
                      (fun v130 _wr => att.length - (intOf v130).toNat)
                    case atStart => exact ⟨0, rfl, Nat.zero_le _, hb1, heap_alloc_new _ _⟩
                    case round => as_aux_lemma =>
                      obtain ⟨j2, rfl, hj2, hb2, hx⟩ := hrel
                      have hgx := blk_lt hx
                      have k1 : wr.cell? ⟨W0.heap.size, 1, none⟩ = some (.int .i64 4) := by rw [cell_of_row _ _ _ _ _ _ hx]; rfl
                      have k3 : wr.cell? ⟨W0.heap.size, 3, none⟩ = some (.slice A' att.length c') := by rw [cell_of_row _ _ _ _ _ _ hx]; rfl
                      rcases hq : att[j2]? with _ | a
                      · have hltj : ¬ ((j2 : Int) < (att.length : Int)) := by rw [List.getElem?_eq_none_iff] at hq; omega
                        clear hq hx
                        go_wp2_with (fail)
                        exact ⟨⟨k + 1, by go_num, by omega, hb2, OK.out⟩, by simp [intOf]; omega⟩
                      · have hjl2 : j2 < att.length := (List.getElem?_eq_some_iff.1 hq).1
                        have hltj2 : (j2 : Int) < (att.length : Int) := by omega
                        obtain ⟨ad', rfl, hB', e0, e1⟩ := HT.out j2 a hq
                        have g0 := (hb2.cell (by rw [add_lt]; exact hB')).trans e0
                        have g1 := cell_add1 _ _ _ ((hb2.cell (by rw [add_lt]; exact hB')).trans e1)
                        obtain ⟨ha1, ha2⟩ := HPA.out.2 a (List.mem_of_getElem? hq)
                        have HX := Lib.hid hx
                        have hb3 := hb2.alloc hb2.size (.cells #[.string a.1, .string a.2] 51)
                        clear hq e0 e1 hx
                        go_wp2_with (fail)
                        go_ret
                        exact ⟨false, rfl, hb3, by simp⟩
            have b3 : (knd != 3) = true := by simpa using k3
            have b1 : (knd != 1) = true := by simpa using c3
            have b4 : (knd != 4) = true := by simpa using k4
            clear k3 k4 c3
            as_aux_lemma =>
              go_wp2_with (fail)
              go_ret
              exact ⟨false, rfl, hb1, by simp⟩
          · have bq : ((q : Int) != 0) = true := by simp; omega
            clear c2
            as_aux_lemma =>
              go_wp2_with (fail)
              go_ret
              exact ⟨false, rfl, hb1, by simp⟩
end Go.Proofs.YtoindammaphefaaDoor
