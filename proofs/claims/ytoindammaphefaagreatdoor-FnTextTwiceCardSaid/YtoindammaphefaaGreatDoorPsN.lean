/- The walk of parsePseudoclassSelector at a pseudo-class without an argument. Conditions: what follows ends the name. -/
import Derived.Test.YtoindammaphefaaGreatDoorPCls
import Derived.Test.YtoindammaphefaaGreatDoorPar
import Derived.Test.YtoindammaphefaaGreatDoorVals
import Derived.Test.YtoindammaphefaaGreatDoorNthZ
namespace Go.Proofs.YtoindammaphefaaGreatDoor
open Go.RowKit



set_option maxHeartbeats 4000000 in
set_option maxRecDepth 100000 in
theorem parsePseudo_nth_child (g : Nat) (s : ByteArray) (i : Nat) (rest : List UInt8) (a b : Int) (ha1 : -9 ≤ a) (ha2 : a ≤ 9) (hb1 : -9 ≤ b) (hb2 : b ≤ 9) (w : World) (hs : s.size ≤ 140737488351232)
    (c0 : w.cell? ⟨g, 0, none⟩ = some (.string s)) (c1 : w.cell? ⟨g, 1, none⟩ = some (.int .i64 i)) (f1 : w.frozen? ⟨g, 1, none⟩ = false)
    (hd : s.data.toList.drop i = 58 :: ([110, 116, 104, 45, 99, 104, 105, 108, 100] ++ 40 :: (countT a b ++ 41 :: rest))) :
    Calls Tryz.prog 43 #[.pointer (some ⟨g, 0, none⟩)] w fun e w' => e = .returned (.tuple #[.iface 129 (.agg #[.int .i64 a, .int .i64 b, .bool false, .bool false]), .string ByteArray.empty, .nilIface]) ∧ Pos w w' g (i + 1 + 9 + 1 + (countT a b).length + 1) := by
  have hst : stops (40 :: (countT a b ++ 41 :: rest)) := by intro c h; simp at h; subst h; decide
  have hi : i < s.size := drop_lt hd
  have hc : s[i] = 58 := drop_get hd hi
  have hlt : (i : Int) < (s.size : Int) := by omega
  obtain ⟨j, hj⟩ : ∃ j, j = i + 1 := ⟨_, rfl⟩
  have hd1 : s.data.toList.drop j = [110, 116, 104, 45, 99, 104, 105, 108, 100] ++ 40 :: (countT a b ++ 41 :: rest) := by rw [hj]; exact drop_next hd
  rw [← hj]
  have hj1 : j < s.size := drop_lt (c := 110) (l := [116, 104, 45, 99, 104, 105, 108, 100] ++ (40 :: (countT a b ++ 41 :: rest))) (by rw [hd1]; rfl)
  have hcj : s[j] = 110 := drop_get (c := 110) (l := [116, 104, 45, 99, 104, 105, 108, 100] ++ (40 :: (countT a b ++ 41 :: rest))) (by rw [hd1]; rfl) hj1
  have hltj : (j : Int) < (s.size : Int) := by omega
  have HJ := Lib.hid (show (i : Int) + 1 = (j : Int) by omega)
  have GN := goodName false (l := [110, 116, 104, 45, 99, 104, 105, 108, 100]) (by decide) (by decide)
  have HN := Lib.hid GN
  have HC := Lib.hid (fun W d0 d1 fz => parseIdentifier_any g s j (nameItems false [110, 116, 104, 45, 99, 104, 105, 108, 100]) (40 :: (countT a b ++ 41 :: rest)) W hs d0 d1 fz (by rw [wrt_name]; exact hd1) GN.ok hst GN.ne GN.st)
  obtain ⟨q, hq⟩ : ∃ q, q = j + 9 := ⟨_, rfl⟩
  have hd2 : s.data.toList.drop q = 40 :: (countT a b ++ 41 :: rest) := by rw [hq]; exact drop_add (a := [110, 116, 104, 45, 99, 104, 105, 108, 100]) hd1
  have hd3 : s.data.toList.drop (q + 1) = countT a b ++ 41 :: rest := drop_next hd2
  have hd4 : s.data.toList.drop (q + 1 + (countT a b).length) = 41 :: rest := drop_add hd3
  have O1 := Lib.hid (fun W d0 d1 fz => consumeOpen_any g s q (countT a b ++ 41 :: rest) W hs d0 d1 fz hd2 (noWs_count a b ha1 ha2 _))
  have C1 := Lib.hid (fun W d0 d1 fz => consumeClose_any g s (q + 1 + (countT a b).length) rest W hs d0 d1 fz hd4)
  have HG := Lib.hid (fun W d0 d1 fz => parseNth_count g s (q + 1) a b (41 :: rest) W hs d0 d1 fz (by omega) (by omega) (by omega) (by omega) hd3 (by intro c hc; simp at hc; subst hc; decide))
  have HE := Lib.hid (show j + 9 + 1 + (countT a b).length + 1 = q + 1 + (countT a b).length + 1 by omega)
  have HQ := Lib.hid (show j + 9 = q by omega)
  clear hd2 hd3 hd4 hq
  have F := Lib.hid (fun (w' : World) (j : Nat) (h : Pos w w' g j) => h.facts c0 c1 f1)
  have hg : g < w.heap.size := cell_lt c0
  have hp := Pos.start c1
  clear hd hd1 hst hj GN
  go_enter Tryz.func43, Tryz.ntmps43
  go_wp2_with fail
  go_quiet (fail)
  go_wp2_with fail
  go_quiet (fail)
  go_wp2_with fail
  simp only [HJ.out]
  go_quiet (fail)
  go_wp2_with fail
  go_quiet (fail)
  go_wp2_with fail
  refine (HC.out _ ?_ ?_ ?_).mono ?_
  · exact (F.out _ _ (((hp.drewN _).set j).drewN _)).1
  · exact (F.out _ _ (((hp.drewN _).set j).drewN _)).2.1
  · exact (F.out _ _ (((hp.drewN _).set j).drewN _)).2.2
  rintro e w2 ⟨r, rfl, hr, m2⟩
  rw [HN.out.dec] at hr
  rw [wrt_name, show ([110, 116, 104, 45, 99, 104, 105, 108, 100] : List UInt8).length = 9 from rfl] at m2
  have p2 := (((hp.drewN _).set j).drewN _).trans m2.toPos
  obtain rfl := eq_lit hr
  clear m2 hr
  obtain ⟨d0, d1, df⟩ := F.out _ _ p2
  go_wp2_with fail
  refine (toLower_any _ _ (by decide) (by exact HN.out.cap)).mono ?_
  rintro e w3 ⟨rfl, rfl⟩
  go_wp2_with fail

  rw [HQ.out] at p2
  clear d0 d1 df
  obtain ⟨d0, d1, df⟩ := F.out _ _ p2
  refine (O1.out _ d0 d1 df).mono ?_
  rintro e w3 ⟨rfl, m3⟩
  have p3 := p2.trans m3.toPos
  clear m3 d0 d1 df p2
  obtain ⟨d0, d1, df⟩ := F.out _ _ p3
  go_wp2_with fail
  refine (HG.out _ d0 d1 df).mono ?_
  rintro e w4 ⟨rfl, m4⟩
  have p4 := p3.trans m4
  clear m4 d0 d1 df p3
  obtain ⟨d0, d1, df⟩ := F.out _ _ p4
  go_wp2_with fail
  refine (C1.out _ d0 d1 df).mono ?_
  rintro e w5 ⟨rfl, m5⟩
  have p5 := p4.trans m5.toPos
  go_wp2_with fail
  go_ret3
  rw [HE.out]
  exact ⟨rfl, p5⟩


set_option maxHeartbeats 4000000 in
set_option maxRecDepth 100000 in
theorem parsePseudo_nth_last_child (g : Nat) (s : ByteArray) (i : Nat) (rest : List UInt8) (a b : Int) (ha1 : -9 ≤ a) (ha2 : a ≤ 9) (hb1 : -9 ≤ b) (hb2 : b ≤ 9) (w : World) (hs : s.size ≤ 140737488351232)
    (c0 : w.cell? ⟨g, 0, none⟩ = some (.string s)) (c1 : w.cell? ⟨g, 1, none⟩ = some (.int .i64 i)) (f1 : w.frozen? ⟨g, 1, none⟩ = false)
    (hd : s.data.toList.drop i = 58 :: ([110, 116, 104, 45, 108, 97, 115, 116, 45, 99, 104, 105, 108, 100] ++ 40 :: (countT a b ++ 41 :: rest))) :
    Calls Tryz.prog 43 #[.pointer (some ⟨g, 0, none⟩)] w fun e w' => e = .returned (.tuple #[.iface 129 (.agg #[.int .i64 a, .int .i64 b, .bool true, .bool false]), .string ByteArray.empty, .nilIface]) ∧ Pos w w' g (i + 1 + 14 + 1 + (countT a b).length + 1) := by
  have hst : stops (40 :: (countT a b ++ 41 :: rest)) := by intro c h; simp at h; subst h; decide
  have hi : i < s.size := drop_lt hd
  have hc : s[i] = 58 := drop_get hd hi
  have hlt : (i : Int) < (s.size : Int) := by omega
  obtain ⟨j, hj⟩ : ∃ j, j = i + 1 := ⟨_, rfl⟩
  have hd1 : s.data.toList.drop j = [110, 116, 104, 45, 108, 97, 115, 116, 45, 99, 104, 105, 108, 100] ++ 40 :: (countT a b ++ 41 :: rest) := by rw [hj]; exact drop_next hd
  rw [← hj]
  have hj1 : j < s.size := drop_lt (c := 110) (l := [116, 104, 45, 108, 97, 115, 116, 45, 99, 104, 105, 108, 100] ++ (40 :: (countT a b ++ 41 :: rest))) (by rw [hd1]; rfl)
  have hcj : s[j] = 110 := drop_get (c := 110) (l := [116, 104, 45, 108, 97, 115, 116, 45, 99, 104, 105, 108, 100] ++ (40 :: (countT a b ++ 41 :: rest))) (by rw [hd1]; rfl) hj1
  have hltj : (j : Int) < (s.size : Int) := by omega
  have HJ := Lib.hid (show (i : Int) + 1 = (j : Int) by omega)
  have GN := goodName false (l := [110, 116, 104, 45, 108, 97, 115, 116, 45, 99, 104, 105, 108, 100]) (by decide) (by decide)
  have HN := Lib.hid GN
  have HC := Lib.hid (fun W d0 d1 fz => parseIdentifier_any g s j (nameItems false [110, 116, 104, 45, 108, 97, 115, 116, 45, 99, 104, 105, 108, 100]) (40 :: (countT a b ++ 41 :: rest)) W hs d0 d1 fz (by rw [wrt_name]; exact hd1) GN.ok hst GN.ne GN.st)
  obtain ⟨q, hq⟩ : ∃ q, q = j + 14 := ⟨_, rfl⟩
  have hd2 : s.data.toList.drop q = 40 :: (countT a b ++ 41 :: rest) := by rw [hq]; exact drop_add (a := [110, 116, 104, 45, 108, 97, 115, 116, 45, 99, 104, 105, 108, 100]) hd1
  have hd3 : s.data.toList.drop (q + 1) = countT a b ++ 41 :: rest := drop_next hd2
  have hd4 : s.data.toList.drop (q + 1 + (countT a b).length) = 41 :: rest := drop_add hd3
  have O1 := Lib.hid (fun W d0 d1 fz => consumeOpen_any g s q (countT a b ++ 41 :: rest) W hs d0 d1 fz hd2 (noWs_count a b ha1 ha2 _))
  have C1 := Lib.hid (fun W d0 d1 fz => consumeClose_any g s (q + 1 + (countT a b).length) rest W hs d0 d1 fz hd4)
  have HG := Lib.hid (fun W d0 d1 fz => parseNth_count g s (q + 1) a b (41 :: rest) W hs d0 d1 fz (by omega) (by omega) (by omega) (by omega) hd3 (by intro c hc; simp at hc; subst hc; decide))
  have HE := Lib.hid (show j + 14 + 1 + (countT a b).length + 1 = q + 1 + (countT a b).length + 1 by omega)
  have HQ := Lib.hid (show j + 14 = q by omega)
  clear hd2 hd3 hd4 hq
  have F := Lib.hid (fun (w' : World) (j : Nat) (h : Pos w w' g j) => h.facts c0 c1 f1)
  have hg : g < w.heap.size := cell_lt c0
  have hp := Pos.start c1
  clear hd hd1 hst hj GN
  go_enter Tryz.func43, Tryz.ntmps43
  go_wp2_with fail
  go_quiet (fail)
  go_wp2_with fail
  go_quiet (fail)
  go_wp2_with fail
  simp only [HJ.out]
  go_quiet (fail)
  go_wp2_with fail
  go_quiet (fail)
  go_wp2_with fail
  refine (HC.out _ ?_ ?_ ?_).mono ?_
  · exact (F.out _ _ (((hp.drewN _).set j).drewN _)).1
  · exact (F.out _ _ (((hp.drewN _).set j).drewN _)).2.1
  · exact (F.out _ _ (((hp.drewN _).set j).drewN _)).2.2
  rintro e w2 ⟨r, rfl, hr, m2⟩
  rw [HN.out.dec] at hr
  rw [wrt_name, show ([110, 116, 104, 45, 108, 97, 115, 116, 45, 99, 104, 105, 108, 100] : List UInt8).length = 14 from rfl] at m2
  have p2 := (((hp.drewN _).set j).drewN _).trans m2.toPos
  obtain rfl := eq_lit hr
  clear m2 hr
  obtain ⟨d0, d1, df⟩ := F.out _ _ p2
  go_wp2_with fail
  refine (toLower_any _ _ (by decide) (by exact HN.out.cap)).mono ?_
  rintro e w3 ⟨rfl, rfl⟩
  go_wp2_with fail

  rw [HQ.out] at p2
  clear d0 d1 df
  obtain ⟨d0, d1, df⟩ := F.out _ _ p2
  refine (O1.out _ d0 d1 df).mono ?_
  rintro e w3 ⟨rfl, m3⟩
  have p3 := p2.trans m3.toPos
  clear m3 d0 d1 df p2
  obtain ⟨d0, d1, df⟩ := F.out _ _ p3
  go_wp2_with fail
  refine (HG.out _ d0 d1 df).mono ?_
  rintro e w4 ⟨rfl, m4⟩
  have p4 := p3.trans m4
  clear m4 d0 d1 df p3
  obtain ⟨d0, d1, df⟩ := F.out _ _ p4
  go_wp2_with fail
  refine (C1.out _ d0 d1 df).mono ?_
  rintro e w5 ⟨rfl, m5⟩
  have p5 := p4.trans m5.toPos
  go_wp2_with fail
  go_ret3
  rw [HE.out]
  exact ⟨rfl, p5⟩


set_option maxHeartbeats 4000000 in
set_option maxRecDepth 100000 in
theorem parsePseudo_nth_of_type (g : Nat) (s : ByteArray) (i : Nat) (rest : List UInt8) (a b : Int) (ha1 : -9 ≤ a) (ha2 : a ≤ 9) (hb1 : -9 ≤ b) (hb2 : b ≤ 9) (w : World) (hs : s.size ≤ 140737488351232)
    (c0 : w.cell? ⟨g, 0, none⟩ = some (.string s)) (c1 : w.cell? ⟨g, 1, none⟩ = some (.int .i64 i)) (f1 : w.frozen? ⟨g, 1, none⟩ = false)
    (hd : s.data.toList.drop i = 58 :: ([110, 116, 104, 45, 111, 102, 45, 116, 121, 112, 101] ++ 40 :: (countT a b ++ 41 :: rest))) :
    Calls Tryz.prog 43 #[.pointer (some ⟨g, 0, none⟩)] w fun e w' => e = .returned (.tuple #[.iface 129 (.agg #[.int .i64 a, .int .i64 b, .bool false, .bool true]), .string ByteArray.empty, .nilIface]) ∧ Pos w w' g (i + 1 + 11 + 1 + (countT a b).length + 1) := by
  have hst : stops (40 :: (countT a b ++ 41 :: rest)) := by intro c h; simp at h; subst h; decide
  have hi : i < s.size := drop_lt hd
  have hc : s[i] = 58 := drop_get hd hi
  have hlt : (i : Int) < (s.size : Int) := by omega
  obtain ⟨j, hj⟩ : ∃ j, j = i + 1 := ⟨_, rfl⟩
  have hd1 : s.data.toList.drop j = [110, 116, 104, 45, 111, 102, 45, 116, 121, 112, 101] ++ 40 :: (countT a b ++ 41 :: rest) := by rw [hj]; exact drop_next hd
  rw [← hj]
  have hj1 : j < s.size := drop_lt (c := 110) (l := [116, 104, 45, 111, 102, 45, 116, 121, 112, 101] ++ (40 :: (countT a b ++ 41 :: rest))) (by rw [hd1]; rfl)
  have hcj : s[j] = 110 := drop_get (c := 110) (l := [116, 104, 45, 111, 102, 45, 116, 121, 112, 101] ++ (40 :: (countT a b ++ 41 :: rest))) (by rw [hd1]; rfl) hj1
  have hltj : (j : Int) < (s.size : Int) := by omega
  have HJ := Lib.hid (show (i : Int) + 1 = (j : Int) by omega)
  have GN := goodName false (l := [110, 116, 104, 45, 111, 102, 45, 116, 121, 112, 101]) (by decide) (by decide)
  have HN := Lib.hid GN
  have HC := Lib.hid (fun W d0 d1 fz => parseIdentifier_any g s j (nameItems false [110, 116, 104, 45, 111, 102, 45, 116, 121, 112, 101]) (40 :: (countT a b ++ 41 :: rest)) W hs d0 d1 fz (by rw [wrt_name]; exact hd1) GN.ok hst GN.ne GN.st)
  obtain ⟨q, hq⟩ : ∃ q, q = j + 11 := ⟨_, rfl⟩
  have hd2 : s.data.toList.drop q = 40 :: (countT a b ++ 41 :: rest) := by rw [hq]; exact drop_add (a := [110, 116, 104, 45, 111, 102, 45, 116, 121, 112, 101]) hd1
  have hd3 : s.data.toList.drop (q + 1) = countT a b ++ 41 :: rest := drop_next hd2
  have hd4 : s.data.toList.drop (q + 1 + (countT a b).length) = 41 :: rest := drop_add hd3
  have O1 := Lib.hid (fun W d0 d1 fz => consumeOpen_any g s q (countT a b ++ 41 :: rest) W hs d0 d1 fz hd2 (noWs_count a b ha1 ha2 _))
  have C1 := Lib.hid (fun W d0 d1 fz => consumeClose_any g s (q + 1 + (countT a b).length) rest W hs d0 d1 fz hd4)
  have HG := Lib.hid (fun W d0 d1 fz => parseNth_count g s (q + 1) a b (41 :: rest) W hs d0 d1 fz (by omega) (by omega) (by omega) (by omega) hd3 (by intro c hc; simp at hc; subst hc; decide))
  have HE := Lib.hid (show j + 11 + 1 + (countT a b).length + 1 = q + 1 + (countT a b).length + 1 by omega)
  have HQ := Lib.hid (show j + 11 = q by omega)
  clear hd2 hd3 hd4 hq
  have F := Lib.hid (fun (w' : World) (j : Nat) (h : Pos w w' g j) => h.facts c0 c1 f1)
  have hg : g < w.heap.size := cell_lt c0
  have hp := Pos.start c1
  clear hd hd1 hst hj GN
  go_enter Tryz.func43, Tryz.ntmps43
  go_wp2_with fail
  go_quiet (fail)
  go_wp2_with fail
  go_quiet (fail)
  go_wp2_with fail
  simp only [HJ.out]
  go_quiet (fail)
  go_wp2_with fail
  go_quiet (fail)
  go_wp2_with fail
  refine (HC.out _ ?_ ?_ ?_).mono ?_
  · exact (F.out _ _ (((hp.drewN _).set j).drewN _)).1
  · exact (F.out _ _ (((hp.drewN _).set j).drewN _)).2.1
  · exact (F.out _ _ (((hp.drewN _).set j).drewN _)).2.2
  rintro e w2 ⟨r, rfl, hr, m2⟩
  rw [HN.out.dec] at hr
  rw [wrt_name, show ([110, 116, 104, 45, 111, 102, 45, 116, 121, 112, 101] : List UInt8).length = 11 from rfl] at m2
  have p2 := (((hp.drewN _).set j).drewN _).trans m2.toPos
  obtain rfl := eq_lit hr
  clear m2 hr
  obtain ⟨d0, d1, df⟩ := F.out _ _ p2
  go_wp2_with fail
  refine (toLower_any _ _ (by decide) (by exact HN.out.cap)).mono ?_
  rintro e w3 ⟨rfl, rfl⟩
  go_wp2_with fail

  rw [HQ.out] at p2
  clear d0 d1 df
  obtain ⟨d0, d1, df⟩ := F.out _ _ p2
  refine (O1.out _ d0 d1 df).mono ?_
  rintro e w3 ⟨rfl, m3⟩
  have p3 := p2.trans m3.toPos
  clear m3 d0 d1 df p2
  obtain ⟨d0, d1, df⟩ := F.out _ _ p3
  go_wp2_with fail
  refine (HG.out _ d0 d1 df).mono ?_
  rintro e w4 ⟨rfl, m4⟩
  have p4 := p3.trans m4
  clear m4 d0 d1 df p3
  obtain ⟨d0, d1, df⟩ := F.out _ _ p4
  go_wp2_with fail
  refine (C1.out _ d0 d1 df).mono ?_
  rintro e w5 ⟨rfl, m5⟩
  have p5 := p4.trans m5.toPos
  go_wp2_with fail
  go_ret3
  rw [HE.out]
  exact ⟨rfl, p5⟩


set_option maxHeartbeats 4000000 in
set_option maxRecDepth 100000 in
theorem parsePseudo_nth_last_of_type (g : Nat) (s : ByteArray) (i : Nat) (rest : List UInt8) (a b : Int) (ha1 : -9 ≤ a) (ha2 : a ≤ 9) (hb1 : -9 ≤ b) (hb2 : b ≤ 9) (w : World) (hs : s.size ≤ 140737488351232)
    (c0 : w.cell? ⟨g, 0, none⟩ = some (.string s)) (c1 : w.cell? ⟨g, 1, none⟩ = some (.int .i64 i)) (f1 : w.frozen? ⟨g, 1, none⟩ = false)
    (hd : s.data.toList.drop i = 58 :: ([110, 116, 104, 45, 108, 97, 115, 116, 45, 111, 102, 45, 116, 121, 112, 101] ++ 40 :: (countT a b ++ 41 :: rest))) :
    Calls Tryz.prog 43 #[.pointer (some ⟨g, 0, none⟩)] w fun e w' => e = .returned (.tuple #[.iface 129 (.agg #[.int .i64 a, .int .i64 b, .bool true, .bool true]), .string ByteArray.empty, .nilIface]) ∧ Pos w w' g (i + 1 + 16 + 1 + (countT a b).length + 1) := by
  have hst : stops (40 :: (countT a b ++ 41 :: rest)) := by intro c h; simp at h; subst h; decide
  have hi : i < s.size := drop_lt hd
  have hc : s[i] = 58 := drop_get hd hi
  have hlt : (i : Int) < (s.size : Int) := by omega
  obtain ⟨j, hj⟩ : ∃ j, j = i + 1 := ⟨_, rfl⟩
  have hd1 : s.data.toList.drop j = [110, 116, 104, 45, 108, 97, 115, 116, 45, 111, 102, 45, 116, 121, 112, 101] ++ 40 :: (countT a b ++ 41 :: rest) := by rw [hj]; exact drop_next hd
  rw [← hj]
  have hj1 : j < s.size := drop_lt (c := 110) (l := [116, 104, 45, 108, 97, 115, 116, 45, 111, 102, 45, 116, 121, 112, 101] ++ (40 :: (countT a b ++ 41 :: rest))) (by rw [hd1]; rfl)
  have hcj : s[j] = 110 := drop_get (c := 110) (l := [116, 104, 45, 108, 97, 115, 116, 45, 111, 102, 45, 116, 121, 112, 101] ++ (40 :: (countT a b ++ 41 :: rest))) (by rw [hd1]; rfl) hj1
  have hltj : (j : Int) < (s.size : Int) := by omega
  have HJ := Lib.hid (show (i : Int) + 1 = (j : Int) by omega)
  have GN := goodName false (l := [110, 116, 104, 45, 108, 97, 115, 116, 45, 111, 102, 45, 116, 121, 112, 101]) (by decide) (by decide)
  have HN := Lib.hid GN
  have HC := Lib.hid (fun W d0 d1 fz => parseIdentifier_any g s j (nameItems false [110, 116, 104, 45, 108, 97, 115, 116, 45, 111, 102, 45, 116, 121, 112, 101]) (40 :: (countT a b ++ 41 :: rest)) W hs d0 d1 fz (by rw [wrt_name]; exact hd1) GN.ok hst GN.ne GN.st)
  obtain ⟨q, hq⟩ : ∃ q, q = j + 16 := ⟨_, rfl⟩
  have hd2 : s.data.toList.drop q = 40 :: (countT a b ++ 41 :: rest) := by rw [hq]; exact drop_add (a := [110, 116, 104, 45, 108, 97, 115, 116, 45, 111, 102, 45, 116, 121, 112, 101]) hd1
  have hd3 : s.data.toList.drop (q + 1) = countT a b ++ 41 :: rest := drop_next hd2
  have hd4 : s.data.toList.drop (q + 1 + (countT a b).length) = 41 :: rest := drop_add hd3
  have O1 := Lib.hid (fun W d0 d1 fz => consumeOpen_any g s q (countT a b ++ 41 :: rest) W hs d0 d1 fz hd2 (noWs_count a b ha1 ha2 _))
  have C1 := Lib.hid (fun W d0 d1 fz => consumeClose_any g s (q + 1 + (countT a b).length) rest W hs d0 d1 fz hd4)
  have HG := Lib.hid (fun W d0 d1 fz => parseNth_count g s (q + 1) a b (41 :: rest) W hs d0 d1 fz (by omega) (by omega) (by omega) (by omega) hd3 (by intro c hc; simp at hc; subst hc; decide))
  have HE := Lib.hid (show j + 16 + 1 + (countT a b).length + 1 = q + 1 + (countT a b).length + 1 by omega)
  have HQ := Lib.hid (show j + 16 = q by omega)
  clear hd2 hd3 hd4 hq
  have F := Lib.hid (fun (w' : World) (j : Nat) (h : Pos w w' g j) => h.facts c0 c1 f1)
  have hg : g < w.heap.size := cell_lt c0
  have hp := Pos.start c1
  clear hd hd1 hst hj GN
  go_enter Tryz.func43, Tryz.ntmps43
  go_wp2_with fail
  go_quiet (fail)
  go_wp2_with fail
  go_quiet (fail)
  go_wp2_with fail
  simp only [HJ.out]
  go_quiet (fail)
  go_wp2_with fail
  go_quiet (fail)
  go_wp2_with fail
  refine (HC.out _ ?_ ?_ ?_).mono ?_
  · exact (F.out _ _ (((hp.drewN _).set j).drewN _)).1
  · exact (F.out _ _ (((hp.drewN _).set j).drewN _)).2.1
  · exact (F.out _ _ (((hp.drewN _).set j).drewN _)).2.2
  rintro e w2 ⟨r, rfl, hr, m2⟩
  rw [HN.out.dec] at hr
  rw [wrt_name, show ([110, 116, 104, 45, 108, 97, 115, 116, 45, 111, 102, 45, 116, 121, 112, 101] : List UInt8).length = 16 from rfl] at m2
  have p2 := (((hp.drewN _).set j).drewN _).trans m2.toPos
  obtain rfl := eq_lit hr
  clear m2 hr
  obtain ⟨d0, d1, df⟩ := F.out _ _ p2
  go_wp2_with fail
  refine (toLower_any _ _ (by decide) (by exact HN.out.cap)).mono ?_
  rintro e w3 ⟨rfl, rfl⟩
  go_wp2_with fail

  rw [HQ.out] at p2
  clear d0 d1 df
  obtain ⟨d0, d1, df⟩ := F.out _ _ p2
  refine (O1.out _ d0 d1 df).mono ?_
  rintro e w3 ⟨rfl, m3⟩
  have p3 := p2.trans m3.toPos
  clear m3 d0 d1 df p2
  obtain ⟨d0, d1, df⟩ := F.out _ _ p3
  go_wp2_with fail
  refine (HG.out _ d0 d1 df).mono ?_
  rintro e w4 ⟨rfl, m4⟩
  have p4 := p3.trans m4
  clear m4 d0 d1 df p3
  obtain ⟨d0, d1, df⟩ := F.out _ _ p4
  go_wp2_with fail
  refine (C1.out _ d0 d1 df).mono ?_
  rintro e w5 ⟨rfl, m5⟩
  have p5 := p4.trans m5.toPos
  go_wp2_with fail
  go_ret3
  rw [HE.out]
  exact ⟨rfl, p5⟩

end Go.Proofs.YtoindammaphefaaGreatDoor
