/- The walk of parsePseudoclassSelector at a pseudo-class without an argument. Conditions: what follows ends the name. -/
import Derived.Test.YtoindammaphefaaGreatDoorPCls
import Derived.Test.YtoindammaphefaaGreatDoorPar
import Derived.Test.YtoindammaphefaaGreatDoorVals
import Derived.Test.YtoindammaphefaaGreatDoorNthZ
namespace Go.Proofs.YtoindammaphefaaGreatDoor
open Go.RowKit



set_option maxHeartbeats 4000000 in
set_option maxRecDepth 100000 in
theorem parsePseudo_root (g : Nat) (s : ByteArray) (i : Nat) (rest : List UInt8) (w : World) (hs : s.size ≤ 140737488351232)
    (c0 : w.cell? ⟨g, 0, none⟩ = some (.string s)) (c1 : w.cell? ⟨g, 1, none⟩ = some (.int .i64 i)) (f1 : w.frozen? ⟨g, 1, none⟩ = false)
    (hd : s.data.toList.drop i = 58 :: ([114, 111, 111, 116] ++ rest)) (hst : stops rest) :
    Calls Tryz.prog 43 #[.pointer (some ⟨g, 0, none⟩)] w fun e w' => e = .returned (.tuple #[.iface 135 (.agg #[]), .string ByteArray.empty, .nilIface]) ∧ Pos w w' g (i + 1 + 4) := by
  have hi : i < s.size := drop_lt hd
  have hc : s[i] = 58 := drop_get hd hi
  have hlt : (i : Int) < (s.size : Int) := by omega
  obtain ⟨j, hj⟩ : ∃ j, j = i + 1 := ⟨_, rfl⟩
  have hd1 : s.data.toList.drop j = [114, 111, 111, 116] ++ rest := by rw [hj]; exact drop_next hd
  rw [← hj]
  have hj1 : j < s.size := drop_lt (c := 114) (l := [111, 111, 116] ++ (rest)) (by rw [hd1]; rfl)
  have hcj : s[j] = 114 := drop_get (c := 114) (l := [111, 111, 116] ++ (rest)) (by rw [hd1]; rfl) hj1
  have hltj : (j : Int) < (s.size : Int) := by omega
  have HJ := Lib.hid (show (i : Int) + 1 = (j : Int) by omega)
  have GN := goodName false (l := [114, 111, 111, 116]) (by decide) (by decide)
  have HN := Lib.hid GN
  have HC := Lib.hid (fun W d0 d1 fz => parseIdentifier_any g s j (nameItems false [114, 111, 111, 116]) (rest) W hs d0 d1 fz (by rw [wrt_name]; exact hd1) GN.ok hst GN.ne GN.st)
  have F := Lib.hid (fun (w' : World) (j : Nat) (h : Pos w w' g j) => h.facts c0 c1 f1)
  have hg : g < w.heap.size := cell_lt c0
  have hp := Pos.start c1
  clear hd hd1 hst hj GN
  go_enter Tryz.func43, Tryz.ntmps43
  go_wp2_with fail
  go_quiet (fail)
  go_wp2_with fail
  go_quiet (fail)
  go_wp2_with fail
  simp only [HJ.out]
  go_quiet (fail)
  go_wp2_with fail
  go_quiet (fail)
  go_wp2_with fail
  refine (HC.out _ ?_ ?_ ?_).mono ?_
  · exact (F.out _ _ (((hp.drewN _).set j).drewN _)).1
  · exact (F.out _ _ (((hp.drewN _).set j).drewN _)).2.1
  · exact (F.out _ _ (((hp.drewN _).set j).drewN _)).2.2
  rintro e w2 ⟨r, rfl, hr, m2⟩
  rw [HN.out.dec] at hr
  rw [wrt_name, show ([114, 111, 111, 116] : List UInt8).length = 4 from rfl] at m2
  have p2 := (((hp.drewN _).set j).drewN _).trans m2.toPos
  obtain rfl := eq_lit hr
  clear m2 hr
  obtain ⟨d0, d1, df⟩ := F.out _ _ p2
  go_wp2_with fail
  refine (toLower_any _ _ (by decide) (by exact HN.out.cap)).mono ?_
  rintro e w3 ⟨rfl, rfl⟩
  go_wp2_with fail

  go_ret3
  exact ⟨rfl, p2⟩


set_option maxHeartbeats 4000000 in
set_option maxRecDepth 100000 in
theorem parsePseudo_empty (g : Nat) (s : ByteArray) (i : Nat) (rest : List UInt8) (w : World) (hs : s.size ≤ 140737488351232)
    (c0 : w.cell? ⟨g, 0, none⟩ = some (.string s)) (c1 : w.cell? ⟨g, 1, none⟩ = some (.int .i64 i)) (f1 : w.frozen? ⟨g, 1, none⟩ = false)
    (hd : s.data.toList.drop i = 58 :: ([101, 109, 112, 116, 121] ++ rest)) (hst : stops rest) :
    Calls Tryz.prog 43 #[.pointer (some ⟨g, 0, none⟩)] w fun e w' => e = .returned (.tuple #[.iface 134 (.agg #[]), .string ByteArray.empty, .nilIface]) ∧ Pos w w' g (i + 1 + 5) := by
  have hi : i < s.size := drop_lt hd
  have hc : s[i] = 58 := drop_get hd hi
  have hlt : (i : Int) < (s.size : Int) := by omega
  obtain ⟨j, hj⟩ : ∃ j, j = i + 1 := ⟨_, rfl⟩
  have hd1 : s.data.toList.drop j = [101, 109, 112, 116, 121] ++ rest := by rw [hj]; exact drop_next hd
  rw [← hj]
  have hj1 : j < s.size := drop_lt (c := 101) (l := [109, 112, 116, 121] ++ (rest)) (by rw [hd1]; rfl)
  have hcj : s[j] = 101 := drop_get (c := 101) (l := [109, 112, 116, 121] ++ (rest)) (by rw [hd1]; rfl) hj1
  have hltj : (j : Int) < (s.size : Int) := by omega
  have HJ := Lib.hid (show (i : Int) + 1 = (j : Int) by omega)
  have GN := goodName false (l := [101, 109, 112, 116, 121]) (by decide) (by decide)
  have HN := Lib.hid GN
  have HC := Lib.hid (fun W d0 d1 fz => parseIdentifier_any g s j (nameItems false [101, 109, 112, 116, 121]) (rest) W hs d0 d1 fz (by rw [wrt_name]; exact hd1) GN.ok hst GN.ne GN.st)
  have F := Lib.hid (fun (w' : World) (j : Nat) (h : Pos w w' g j) => h.facts c0 c1 f1)
  have hg : g < w.heap.size := cell_lt c0
  have hp := Pos.start c1
  clear hd hd1 hst hj GN
  go_enter Tryz.func43, Tryz.ntmps43
  go_wp2_with fail
  go_quiet (fail)
  go_wp2_with fail
  go_quiet (fail)
  go_wp2_with fail
  simp only [HJ.out]
  go_quiet (fail)
  go_wp2_with fail
  go_quiet (fail)
  go_wp2_with fail
  refine (HC.out _ ?_ ?_ ?_).mono ?_
  · exact (F.out _ _ (((hp.drewN _).set j).drewN _)).1
  · exact (F.out _ _ (((hp.drewN _).set j).drewN _)).2.1
  · exact (F.out _ _ (((hp.drewN _).set j).drewN _)).2.2
  rintro e w2 ⟨r, rfl, hr, m2⟩
  rw [HN.out.dec] at hr
  rw [wrt_name, show ([101, 109, 112, 116, 121] : List UInt8).length = 5 from rfl] at m2
  have p2 := (((hp.drewN _).set j).drewN _).trans m2.toPos
  obtain rfl := eq_lit hr
  clear m2 hr
  obtain ⟨d0, d1, df⟩ := F.out _ _ p2
  go_wp2_with fail
  refine (toLower_any _ _ (by decide) (by exact HN.out.cap)).mono ?_
  rintro e w3 ⟨rfl, rfl⟩
  go_wp2_with fail

  go_ret3
  exact ⟨rfl, p2⟩


set_option maxHeartbeats 4000000 in
set_option maxRecDepth 100000 in
theorem parsePseudo_first_child (g : Nat) (s : ByteArray) (i : Nat) (rest : List UInt8) (w : World) (hs : s.size ≤ 140737488351232)
    (c0 : w.cell? ⟨g, 0, none⟩ = some (.string s)) (c1 : w.cell? ⟨g, 1, none⟩ = some (.int .i64 i)) (f1 : w.frozen? ⟨g, 1, none⟩ = false)
    (hd : s.data.toList.drop i = 58 :: ([102, 105, 114, 115, 116, 45, 99, 104, 105, 108, 100] ++ rest)) (hst : stops rest) :
    Calls Tryz.prog 43 #[.pointer (some ⟨g, 0, none⟩)] w fun e w' => e = .returned (.tuple #[.iface 129 (.agg #[.int .i64 0, .int .i64 1, .bool false, .bool false]), .string ByteArray.empty, .nilIface]) ∧ Pos w w' g (i + 1 + 11) := by
  have hi : i < s.size := drop_lt hd
  have hc : s[i] = 58 := drop_get hd hi
  have hlt : (i : Int) < (s.size : Int) := by omega
  obtain ⟨j, hj⟩ : ∃ j, j = i + 1 := ⟨_, rfl⟩
  have hd1 : s.data.toList.drop j = [102, 105, 114, 115, 116, 45, 99, 104, 105, 108, 100] ++ rest := by rw [hj]; exact drop_next hd
  rw [← hj]
  have hj1 : j < s.size := drop_lt (c := 102) (l := [105, 114, 115, 116, 45, 99, 104, 105, 108, 100] ++ (rest)) (by rw [hd1]; rfl)
  have hcj : s[j] = 102 := drop_get (c := 102) (l := [105, 114, 115, 116, 45, 99, 104, 105, 108, 100] ++ (rest)) (by rw [hd1]; rfl) hj1
  have hltj : (j : Int) < (s.size : Int) := by omega
  have HJ := Lib.hid (show (i : Int) + 1 = (j : Int) by omega)
  have GN := goodName false (l := [102, 105, 114, 115, 116, 45, 99, 104, 105, 108, 100]) (by decide) (by decide)
  have HN := Lib.hid GN
  have HC := Lib.hid (fun W d0 d1 fz => parseIdentifier_any g s j (nameItems false [102, 105, 114, 115, 116, 45, 99, 104, 105, 108, 100]) (rest) W hs d0 d1 fz (by rw [wrt_name]; exact hd1) GN.ok hst GN.ne GN.st)
  have F := Lib.hid (fun (w' : World) (j : Nat) (h : Pos w w' g j) => h.facts c0 c1 f1)
  have hg : g < w.heap.size := cell_lt c0
  have hp := Pos.start c1
  clear hd hd1 hst hj GN
  go_enter Tryz.func43, Tryz.ntmps43
  go_wp2_with fail
  go_quiet (fail)
  go_wp2_with fail
  go_quiet (fail)
  go_wp2_with fail
  simp only [HJ.out]
  go_quiet (fail)
  go_wp2_with fail
  go_quiet (fail)
  go_wp2_with fail
  refine (HC.out _ ?_ ?_ ?_).mono ?_
  · exact (F.out _ _ (((hp.drewN _).set j).drewN _)).1
  · exact (F.out _ _ (((hp.drewN _).set j).drewN _)).2.1
  · exact (F.out _ _ (((hp.drewN _).set j).drewN _)).2.2
  rintro e w2 ⟨r, rfl, hr, m2⟩
  rw [HN.out.dec] at hr
  rw [wrt_name, show ([102, 105, 114, 115, 116, 45, 99, 104, 105, 108, 100] : List UInt8).length = 11 from rfl] at m2
  have p2 := (((hp.drewN _).set j).drewN _).trans m2.toPos
  obtain rfl := eq_lit hr
  clear m2 hr
  obtain ⟨d0, d1, df⟩ := F.out _ _ p2
  go_wp2_with fail
  refine (toLower_any _ _ (by decide) (by exact HN.out.cap)).mono ?_
  rintro e w3 ⟨rfl, rfl⟩
  go_wp2_with fail

  go_ret3
  exact ⟨rfl, p2⟩


set_option maxHeartbeats 4000000 in
set_option maxRecDepth 100000 in
theorem parsePseudo_last_child (g : Nat) (s : ByteArray) (i : Nat) (rest : List UInt8) (w : World) (hs : s.size ≤ 140737488351232)
    (c0 : w.cell? ⟨g, 0, none⟩ = some (.string s)) (c1 : w.cell? ⟨g, 1, none⟩ = some (.int .i64 i)) (f1 : w.frozen? ⟨g, 1, none⟩ = false)
    (hd : s.data.toList.drop i = 58 :: ([108, 97, 115, 116, 45, 99, 104, 105, 108, 100] ++ rest)) (hst : stops rest) :
    Calls Tryz.prog 43 #[.pointer (some ⟨g, 0, none⟩)] w fun e w' => e = .returned (.tuple #[.iface 129 (.agg #[.int .i64 0, .int .i64 1, .bool true, .bool false]), .string ByteArray.empty, .nilIface]) ∧ Pos w w' g (i + 1 + 10) := by
  have hi : i < s.size := drop_lt hd
  have hc : s[i] = 58 := drop_get hd hi
  have hlt : (i : Int) < (s.size : Int) := by omega
  obtain ⟨j, hj⟩ : ∃ j, j = i + 1 := ⟨_, rfl⟩
  have hd1 : s.data.toList.drop j = [108, 97, 115, 116, 45, 99, 104, 105, 108, 100] ++ rest := by rw [hj]; exact drop_next hd
  rw [← hj]
  have hj1 : j < s.size := drop_lt (c := 108) (l := [97, 115, 116, 45, 99, 104, 105, 108, 100] ++ (rest)) (by rw [hd1]; rfl)
  have hcj : s[j] = 108 := drop_get (c := 108) (l := [97, 115, 116, 45, 99, 104, 105, 108, 100] ++ (rest)) (by rw [hd1]; rfl) hj1
  have hltj : (j : Int) < (s.size : Int) := by omega
  have HJ := Lib.hid (show (i : Int) + 1 = (j : Int) by omega)
  have GN := goodName false (l := [108, 97, 115, 116, 45, 99, 104, 105, 108, 100]) (by decide) (by decide)
  have HN := Lib.hid GN
  have HC := Lib.hid (fun W d0 d1 fz => parseIdentifier_any g s j (nameItems false [108, 97, 115, 116, 45, 99, 104, 105, 108, 100]) (rest) W hs d0 d1 fz (by rw [wrt_name]; exact hd1) GN.ok hst GN.ne GN.st)
  have F := Lib.hid (fun (w' : World) (j : Nat) (h : Pos w w' g j) => h.facts c0 c1 f1)
  have hg : g < w.heap.size := cell_lt c0
  have hp := Pos.start c1
  clear hd hd1 hst hj GN
  go_enter Tryz.func43, Tryz.ntmps43
  go_wp2_with fail
  go_quiet (fail)
  go_wp2_with fail
  go_quiet (fail)
  go_wp2_with fail
  simp only [HJ.out]
  go_quiet (fail)
  go_wp2_with fail
  go_quiet (fail)
  go_wp2_with fail
  refine (HC.out _ ?_ ?_ ?_).mono ?_
  · exact (F.out _ _ (((hp.drewN _).set j).drewN _)).1
  · exact (F.out _ _ (((hp.drewN _).set j).drewN _)).2.1
  · exact (F.out _ _ (((hp.drewN _).set j).drewN _)).2.2
  rintro e w2 ⟨r, rfl, hr, m2⟩
  rw [HN.out.dec] at hr
  rw [wrt_name, show ([108, 97, 115, 116, 45, 99, 104, 105, 108, 100] : List UInt8).length = 10 from rfl] at m2
  have p2 := (((hp.drewN _).set j).drewN _).trans m2.toPos
  obtain rfl := eq_lit hr
  clear m2 hr
  obtain ⟨d0, d1, df⟩ := F.out _ _ p2
  go_wp2_with fail
  refine (toLower_any _ _ (by decide) (by exact HN.out.cap)).mono ?_
  rintro e w3 ⟨rfl, rfl⟩
  go_wp2_with fail

  go_ret3
  exact ⟨rfl, p2⟩


set_option maxHeartbeats 4000000 in
set_option maxRecDepth 100000 in
theorem parsePseudo_first_of_type (g : Nat) (s : ByteArray) (i : Nat) (rest : List UInt8) (w : World) (hs : s.size ≤ 140737488351232)
    (c0 : w.cell? ⟨g, 0, none⟩ = some (.string s)) (c1 : w.cell? ⟨g, 1, none⟩ = some (.int .i64 i)) (f1 : w.frozen? ⟨g, 1, none⟩ = false)
    (hd : s.data.toList.drop i = 58 :: ([102, 105, 114, 115, 116, 45, 111, 102, 45, 116, 121, 112, 101] ++ rest)) (hst : stops rest) :
    Calls Tryz.prog 43 #[.pointer (some ⟨g, 0, none⟩)] w fun e w' => e = .returned (.tuple #[.iface 129 (.agg #[.int .i64 0, .int .i64 1, .bool false, .bool true]), .string ByteArray.empty, .nilIface]) ∧ Pos w w' g (i + 1 + 13) := by
  have hi : i < s.size := drop_lt hd
  have hc : s[i] = 58 := drop_get hd hi
  have hlt : (i : Int) < (s.size : Int) := by omega
  obtain ⟨j, hj⟩ : ∃ j, j = i + 1 := ⟨_, rfl⟩
  have hd1 : s.data.toList.drop j = [102, 105, 114, 115, 116, 45, 111, 102, 45, 116, 121, 112, 101] ++ rest := by rw [hj]; exact drop_next hd
  rw [← hj]
  have hj1 : j < s.size := drop_lt (c := 102) (l := [105, 114, 115, 116, 45, 111, 102, 45, 116, 121, 112, 101] ++ (rest)) (by rw [hd1]; rfl)
  have hcj : s[j] = 102 := drop_get (c := 102) (l := [105, 114, 115, 116, 45, 111, 102, 45, 116, 121, 112, 101] ++ (rest)) (by rw [hd1]; rfl) hj1
  have hltj : (j : Int) < (s.size : Int) := by omega
  have HJ := Lib.hid (show (i : Int) + 1 = (j : Int) by omega)
  have GN := goodName false (l := [102, 105, 114, 115, 116, 45, 111, 102, 45, 116, 121, 112, 101]) (by decide) (by decide)
  have HN := Lib.hid GN
  have HC := Lib.hid (fun W d0 d1 fz => parseIdentifier_any g s j (nameItems false [102, 105, 114, 115, 116, 45, 111, 102, 45, 116, 121, 112, 101]) (rest) W hs d0 d1 fz (by rw [wrt_name]; exact hd1) GN.ok hst GN.ne GN.st)
  have F := Lib.hid (fun (w' : World) (j : Nat) (h : Pos w w' g j) => h.facts c0 c1 f1)
  have hg : g < w.heap.size := cell_lt c0
  have hp := Pos.start c1
  clear hd hd1 hst hj GN
  go_enter Tryz.func43, Tryz.ntmps43
  go_wp2_with fail
  go_quiet (fail)
  go_wp2_with fail
  go_quiet (fail)
  go_wp2_with fail
  simp only [HJ.out]
  go_quiet (fail)
  go_wp2_with fail
  go_quiet (fail)
  go_wp2_with fail
  refine (HC.out _ ?_ ?_ ?_).mono ?_
  · exact (F.out _ _ (((hp.drewN _).set j).drewN _)).1
  · exact (F.out _ _ (((hp.drewN _).set j).drewN _)).2.1
  · exact (F.out _ _ (((hp.drewN _).set j).drewN _)).2.2
  rintro e w2 ⟨r, rfl, hr, m2⟩
  rw [HN.out.dec] at hr
  rw [wrt_name, show ([102, 105, 114, 115, 116, 45, 111, 102, 45, 116, 121, 112, 101] : List UInt8).length = 13 from rfl] at m2
  have p2 := (((hp.drewN _).set j).drewN _).trans m2.toPos
  obtain rfl := eq_lit hr
  clear m2 hr
  obtain ⟨d0, d1, df⟩ := F.out _ _ p2
  go_wp2_with fail
  refine (toLower_any _ _ (by decide) (by exact HN.out.cap)).mono ?_
  rintro e w3 ⟨rfl, rfl⟩
  go_wp2_with fail

  go_ret3
  exact ⟨rfl, p2⟩


set_option maxHeartbeats 4000000 in
set_option maxRecDepth 100000 in
theorem parsePseudo_last_of_type (g : Nat) (s : ByteArray) (i : Nat) (rest : List UInt8) (w : World) (hs : s.size ≤ 140737488351232)
    (c0 : w.cell? ⟨g, 0, none⟩ = some (.string s)) (c1 : w.cell? ⟨g, 1, none⟩ = some (.int .i64 i)) (f1 : w.frozen? ⟨g, 1, none⟩ = false)
    (hd : s.data.toList.drop i = 58 :: ([108, 97, 115, 116, 45, 111, 102, 45, 116, 121, 112, 101] ++ rest)) (hst : stops rest) :
    Calls Tryz.prog 43 #[.pointer (some ⟨g, 0, none⟩)] w fun e w' => e = .returned (.tuple #[.iface 129 (.agg #[.int .i64 0, .int .i64 1, .bool true, .bool true]), .string ByteArray.empty, .nilIface]) ∧ Pos w w' g (i + 1 + 12) := by
  have hi : i < s.size := drop_lt hd
  have hc : s[i] = 58 := drop_get hd hi
  have hlt : (i : Int) < (s.size : Int) := by omega
  obtain ⟨j, hj⟩ : ∃ j, j = i + 1 := ⟨_, rfl⟩
  have hd1 : s.data.toList.drop j = [108, 97, 115, 116, 45, 111, 102, 45, 116, 121, 112, 101] ++ rest := by rw [hj]; exact drop_next hd
  rw [← hj]
  have hj1 : j < s.size := drop_lt (c := 108) (l := [97, 115, 116, 45, 111, 102, 45, 116, 121, 112, 101] ++ (rest)) (by rw [hd1]; rfl)
  have hcj : s[j] = 108 := drop_get (c := 108) (l := [97, 115, 116, 45, 111, 102, 45, 116, 121, 112, 101] ++ (rest)) (by rw [hd1]; rfl) hj1
  have hltj : (j : Int) < (s.size : Int) := by omega
  have HJ := Lib.hid (show (i : Int) + 1 = (j : Int) by omega)
  have GN := goodName false (l := [108, 97, 115, 116, 45, 111, 102, 45, 116, 121, 112, 101]) (by decide) (by decide)
  have HN := Lib.hid GN
  have HC := Lib.hid (fun W d0 d1 fz => parseIdentifier_any g s j (nameItems false [108, 97, 115, 116, 45, 111, 102, 45, 116, 121, 112, 101]) (rest) W hs d0 d1 fz (by rw [wrt_name]; exact hd1) GN.ok hst GN.ne GN.st)
  have F := Lib.hid (fun (w' : World) (j : Nat) (h : Pos w w' g j) => h.facts c0 c1 f1)
  have hg : g < w.heap.size := cell_lt c0
  have hp := Pos.start c1
  clear hd hd1 hst hj GN
  go_enter Tryz.func43, Tryz.ntmps43
  go_wp2_with fail
  go_quiet (fail)
  go_wp2_with fail
  go_quiet (fail)
  go_wp2_with fail
  simp only [HJ.out]
  go_quiet (fail)
  go_wp2_with fail
  go_quiet (fail)
  go_wp2_with fail
  refine (HC.out _ ?_ ?_ ?_).mono ?_
  · exact (F.out _ _ (((hp.drewN _).set j).drewN _)).1
  · exact (F.out _ _ (((hp.drewN _).set j).drewN _)).2.1
  · exact (F.out _ _ (((hp.drewN _).set j).drewN _)).2.2
  rintro e w2 ⟨r, rfl, hr, m2⟩
  rw [HN.out.dec] at hr
  rw [wrt_name, show ([108, 97, 115, 116, 45, 111, 102, 45, 116, 121, 112, 101] : List UInt8).length = 12 from rfl] at m2
  have p2 := (((hp.drewN _).set j).drewN _).trans m2.toPos
  obtain rfl := eq_lit hr
  clear m2 hr
  obtain ⟨d0, d1, df⟩ := F.out _ _ p2
  go_wp2_with fail
  refine (toLower_any _ _ (by decide) (by exact HN.out.cap)).mono ?_
  rintro e w3 ⟨rfl, rfl⟩
  go_wp2_with fail

  go_ret3
  exact ⟨rfl, p2⟩

end Go.Proofs.YtoindammaphefaaGreatDoor
