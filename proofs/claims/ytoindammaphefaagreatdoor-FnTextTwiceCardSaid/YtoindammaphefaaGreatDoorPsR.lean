/- The walk of parsePseudoclassSelector at a pseudo-class without an argument. Conditions: what follows ends the name. -/
import Derived.Test.YtoindammaphefaaGreatDoorPCls
import Derived.Test.YtoindammaphefaaGreatDoorPar
import Derived.Test.YtoindammaphefaaGreatDoorVals
import Derived.Test.YtoindammaphefaaGreatDoorNthZ
namespace Go.Proofs.YtoindammaphefaaGreatDoor
open Go.RowKit


/-- A pseudo-class with selectors that was read. -/
def RelEnd (nm : List UInt8) (V : World → Value → Prop) (g E : Nat) (w : World) (e : Ending) (w' : World) : Prop :=
  ∃ v, e = .returned (.tuple #[.iface 121 (.agg #[.string (bs nm), v]), .string ByteArray.empty, .nilIface]) ∧ V w' v ∧ Pos w w' g E


set_option maxHeartbeats 4000000 in
set_option maxRecDepth 100000 in
theorem parsePseudo_not (g : Nat) (s : ByteArray) (i : Nat) (rest : List UInt8) (dep : Int) (T : List UInt8) (V : World → Value → Prop) (hT : noWs (T ++ 41 :: rest)) (w : World) (hs : s.size ≤ 140737488351232)
    (hP : Prs g s dep i w)
    (hd : s.data.toList.drop i = 58 :: ([110, 111, 116] ++ 40 :: (T ++ 41 :: rest)))
    (hV : ∀ W W' v j, V W v → Pos w W g j → Pos W W' g (j + 1) → V W' v) (hS : ∀ W v, V W v → ∃ A n c, v = .slice A n c)
    (hG : ∀ W, Prs g s dep (i + 1 + 3 + 1) W → Pos w W g (i + 1 + 3 + 1) → Calls Tryz.prog 24 #[.pointer (some ⟨g, 0, none⟩)] W (SelEnd V g (i + 1 + 3 + 1 + T.length) W)) :
    Calls Tryz.prog 43 #[.pointer (some ⟨g, 0, none⟩)] w fun e w' => RelEnd [110, 111, 116] V g (i + 1 + 3 + 1 + T.length + 1) w e w' := by
  have c0 := hP.c0
  have c1 := hP.c1
  have f1 := hP.fz 1
  have hst : stops (40 :: (T ++ 41 :: rest)) := by intro c h; simp at h; subst h; decide
  have hi : i < s.size := drop_lt hd
  have hc : s[i] = 58 := drop_get hd hi
  have hlt : (i : Int) < (s.size : Int) := by omega
  obtain ⟨j, hj⟩ : ∃ j, j = i + 1 := ⟨_, rfl⟩
  have hd1 : s.data.toList.drop j = [110, 111, 116] ++ 40 :: (T ++ 41 :: rest) := by rw [hj]; exact drop_next hd
  rw [← hj]
  have hj1 : j < s.size := drop_lt (c := 110) (l := [111, 116] ++ (40 :: (T ++ 41 :: rest))) (by rw [hd1]; rfl)
  have hcj : s[j] = 110 := drop_get (c := 110) (l := [111, 116] ++ (40 :: (T ++ 41 :: rest))) (by rw [hd1]; rfl) hj1
  have hltj : (j : Int) < (s.size : Int) := by omega
  have HJ := Lib.hid (show (i : Int) + 1 = (j : Int) by omega)
  have GN := goodName false (l := [110, 111, 116]) (by decide) (by decide)
  have HN := Lib.hid GN
  have HC := Lib.hid (fun W d0 d1 fz => parseIdentifier_any g s j (nameItems false [110, 111, 116]) (40 :: (T ++ 41 :: rest)) W hs d0 d1 fz (by rw [wrt_name]; exact hd1) GN.ok hst GN.ne GN.st)
  obtain ⟨q, hq⟩ : ∃ q, q = j + 3 := ⟨_, rfl⟩
  have hd2 : s.data.toList.drop q = 40 :: (T ++ 41 :: rest) := by rw [hq]; exact drop_add (a := [110, 111, 116]) hd1
  have hd3 : s.data.toList.drop (q + 1) = T ++ 41 :: rest := drop_next hd2
  have hd4 : s.data.toList.drop (q + 1 + T.length) = 41 :: rest := drop_add hd3
  have O1 := Lib.hid (fun W d0 d1 fz => consumeOpen_any g s q (T ++ 41 :: rest) W hs d0 d1 fz hd2 hT)
  have C1 := Lib.hid (fun W d0 d1 fz => consumeClose_any g s (q + 1 + T.length) rest W hs d0 d1 fz hd4)
  have HG := Lib.hid (fun (W : World) (d0 : Prs g s dep (q + 1) W) (p0 : Pos w W g (q + 1)) => (show Calls Tryz.prog 24 #[.pointer (some ⟨g, 0, none⟩)] W (SelEnd V g (q + 1 + T.length) W) from by
    have h := hG W (by rw [show i + 1 + 3 + 1 = q + 1 by omega]; exact d0) (by rw [show i + 1 + 3 + 1 = q + 1 by omega]; exact p0)
    rwa [show i + 1 + 3 + 1 = q + 1 by omega] at h))
  have HV := Lib.hid hV
  have HS := Lib.hid hS
  have HP := Lib.hid hP
  have HE := Lib.hid (show j + 3 + 1 + T.length + 1 = q + 1 + T.length + 1 by omega)
  have HQ := Lib.hid (show j + 3 = q by omega)
  clear hd2 hd3 hd4 hq hV hS hG hP hT
  have F := Lib.hid (fun (w' : World) (j : Nat) (h : Pos w w' g j) => h.facts c0 c1 f1)
  have hg : g < w.heap.size := cell_lt c0
  have hp := Pos.start c1
  clear hd hd1 hst hj GN
  go_enter Tryz.func43, Tryz.ntmps43
  go_wp2_with fail
  go_quiet (fail)
  go_wp2_with fail
  go_quiet (fail)
  go_wp2_with fail
  simp only [HJ.out]
  go_quiet (fail)
  go_wp2_with fail
  go_quiet (fail)
  go_wp2_with fail
  refine (HC.out _ ?_ ?_ ?_).mono ?_
  · exact (F.out _ _ (((hp.drewN _).set j).drewN _)).1
  · exact (F.out _ _ (((hp.drewN _).set j).drewN _)).2.1
  · exact (F.out _ _ (((hp.drewN _).set j).drewN _)).2.2
  rintro e w2 ⟨r, rfl, hr, m2⟩
  rw [HN.out.dec] at hr
  rw [wrt_name, show ([110, 111, 116] : List UInt8).length = 3 from rfl] at m2
  have p2 := (((hp.drewN _).set j).drewN _).trans m2.toPos
  obtain rfl := eq_lit hr
  clear m2 hr
  obtain ⟨d0, d1, df⟩ := F.out _ _ p2
  go_wp2_with fail
  refine (toLower_any _ _ (by decide) (by exact HN.out.cap)).mono ?_
  rintro e w3 ⟨rfl, rfl⟩
  go_wp2_with fail

  rw [HQ.out] at p2
  clear d0 d1 df
  obtain ⟨d0, d1, df⟩ := F.out _ _ p2
  refine (O1.out _ d0 d1 df).mono ?_
  rintro e w3 ⟨rfl, m3⟩
  have p3 := p2.trans m3.toPos
  clear m3 d0 d1 df p2
  obtain ⟨d0, d1, df⟩ := F.out _ _ p3
  go_wp2_with fail
  refine (HG.out _ (HP.out.pos p3) p3).mono ?_
  rintro e w4 ⟨v, rfl, hv, m4⟩
  have p4 := p3.trans m4
  obtain ⟨A, n, c, rfl⟩ := HS.out _ _ hv
  have HVV := Lib.hid hv
  clear m4 d0 d1 df p3 hv
  obtain ⟨d0, d1, df⟩ := F.out _ _ p4
  go_wp2_with fail
  refine (C1.out _ d0 d1 df).mono ?_
  rintro e w5 ⟨rfl, m5⟩
  have p5 := p4.trans m5.toPos
  go_wp2_with fail
  go_ret3
  rw [HE.out]
  exact ⟨_, rfl, HV.out _ _ _ _ HVV.out p4 m5.toPos, p5⟩


set_option maxHeartbeats 4000000 in
set_option maxRecDepth 100000 in
theorem parsePseudo_has (g : Nat) (s : ByteArray) (i : Nat) (rest : List UInt8) (dep : Int) (T : List UInt8) (V : World → Value → Prop) (hT : noWs (T ++ 41 :: rest)) (w : World) (hs : s.size ≤ 140737488351232)
    (hP : Prs g s dep i w)
    (hd : s.data.toList.drop i = 58 :: ([104, 97, 115] ++ 40 :: (T ++ 41 :: rest)))
    (hV : ∀ W W' v j, V W v → Pos w W g j → Pos W W' g (j + 1) → V W' v) (hS : ∀ W v, V W v → ∃ A n c, v = .slice A n c)
    (hG : ∀ W, Prs g s dep (i + 1 + 3 + 1) W → Pos w W g (i + 1 + 3 + 1) → Calls Tryz.prog 24 #[.pointer (some ⟨g, 0, none⟩)] W (SelEnd V g (i + 1 + 3 + 1 + T.length) W)) :
    Calls Tryz.prog 43 #[.pointer (some ⟨g, 0, none⟩)] w fun e w' => RelEnd [104, 97, 115] V g (i + 1 + 3 + 1 + T.length + 1) w e w' := by
  have c0 := hP.c0
  have c1 := hP.c1
  have f1 := hP.fz 1
  have hst : stops (40 :: (T ++ 41 :: rest)) := by intro c h; simp at h; subst h; decide
  have hi : i < s.size := drop_lt hd
  have hc : s[i] = 58 := drop_get hd hi
  have hlt : (i : Int) < (s.size : Int) := by omega
  obtain ⟨j, hj⟩ : ∃ j, j = i + 1 := ⟨_, rfl⟩
  have hd1 : s.data.toList.drop j = [104, 97, 115] ++ 40 :: (T ++ 41 :: rest) := by rw [hj]; exact drop_next hd
  rw [← hj]
  have hj1 : j < s.size := drop_lt (c := 104) (l := [97, 115] ++ (40 :: (T ++ 41 :: rest))) (by rw [hd1]; rfl)
  have hcj : s[j] = 104 := drop_get (c := 104) (l := [97, 115] ++ (40 :: (T ++ 41 :: rest))) (by rw [hd1]; rfl) hj1
  have hltj : (j : Int) < (s.size : Int) := by omega
  have HJ := Lib.hid (show (i : Int) + 1 = (j : Int) by omega)
  have GN := goodName false (l := [104, 97, 115]) (by decide) (by decide)
  have HN := Lib.hid GN
  have HC := Lib.hid (fun W d0 d1 fz => parseIdentifier_any g s j (nameItems false [104, 97, 115]) (40 :: (T ++ 41 :: rest)) W hs d0 d1 fz (by rw [wrt_name]; exact hd1) GN.ok hst GN.ne GN.st)
  obtain ⟨q, hq⟩ : ∃ q, q = j + 3 := ⟨_, rfl⟩
  have hd2 : s.data.toList.drop q = 40 :: (T ++ 41 :: rest) := by rw [hq]; exact drop_add (a := [104, 97, 115]) hd1
  have hd3 : s.data.toList.drop (q + 1) = T ++ 41 :: rest := drop_next hd2
  have hd4 : s.data.toList.drop (q + 1 + T.length) = 41 :: rest := drop_add hd3
  have O1 := Lib.hid (fun W d0 d1 fz => consumeOpen_any g s q (T ++ 41 :: rest) W hs d0 d1 fz hd2 hT)
  have C1 := Lib.hid (fun W d0 d1 fz => consumeClose_any g s (q + 1 + T.length) rest W hs d0 d1 fz hd4)
  have HG := Lib.hid (fun (W : World) (d0 : Prs g s dep (q + 1) W) (p0 : Pos w W g (q + 1)) => (show Calls Tryz.prog 24 #[.pointer (some ⟨g, 0, none⟩)] W (SelEnd V g (q + 1 + T.length) W) from by
    have h := hG W (by rw [show i + 1 + 3 + 1 = q + 1 by omega]; exact d0) (by rw [show i + 1 + 3 + 1 = q + 1 by omega]; exact p0)
    rwa [show i + 1 + 3 + 1 = q + 1 by omega] at h))
  have HV := Lib.hid hV
  have HS := Lib.hid hS
  have HP := Lib.hid hP
  have HE := Lib.hid (show j + 3 + 1 + T.length + 1 = q + 1 + T.length + 1 by omega)
  have HQ := Lib.hid (show j + 3 = q by omega)
  clear hd2 hd3 hd4 hq hV hS hG hP hT
  have F := Lib.hid (fun (w' : World) (j : Nat) (h : Pos w w' g j) => h.facts c0 c1 f1)
  have hg : g < w.heap.size := cell_lt c0
  have hp := Pos.start c1
  clear hd hd1 hst hj GN
  go_enter Tryz.func43, Tryz.ntmps43
  go_wp2_with fail
  go_quiet (fail)
  go_wp2_with fail
  go_quiet (fail)
  go_wp2_with fail
  simp only [HJ.out]
  go_quiet (fail)
  go_wp2_with fail
  go_quiet (fail)
  go_wp2_with fail
  refine (HC.out _ ?_ ?_ ?_).mono ?_
  · exact (F.out _ _ (((hp.drewN _).set j).drewN _)).1
  · exact (F.out _ _ (((hp.drewN _).set j).drewN _)).2.1
  · exact (F.out _ _ (((hp.drewN _).set j).drewN _)).2.2
  rintro e w2 ⟨r, rfl, hr, m2⟩
  rw [HN.out.dec] at hr
  rw [wrt_name, show ([104, 97, 115] : List UInt8).length = 3 from rfl] at m2
  have p2 := (((hp.drewN _).set j).drewN _).trans m2.toPos
  obtain rfl := eq_lit hr
  clear m2 hr
  obtain ⟨d0, d1, df⟩ := F.out _ _ p2
  go_wp2_with fail
  refine (toLower_any _ _ (by decide) (by exact HN.out.cap)).mono ?_
  rintro e w3 ⟨rfl, rfl⟩
  go_wp2_with fail

  rw [HQ.out] at p2
  clear d0 d1 df
  obtain ⟨d0, d1, df⟩ := F.out _ _ p2
  refine (O1.out _ d0 d1 df).mono ?_
  rintro e w3 ⟨rfl, m3⟩
  have p3 := p2.trans m3.toPos
  clear m3 d0 d1 df p2
  obtain ⟨d0, d1, df⟩ := F.out _ _ p3
  go_wp2_with fail
  refine (HG.out _ (HP.out.pos p3) p3).mono ?_
  rintro e w4 ⟨v, rfl, hv, m4⟩
  have p4 := p3.trans m4
  obtain ⟨A, n, c, rfl⟩ := HS.out _ _ hv
  have HVV := Lib.hid hv
  clear m4 d0 d1 df p3 hv
  obtain ⟨d0, d1, df⟩ := F.out _ _ p4
  go_wp2_with fail
  refine (C1.out _ d0 d1 df).mono ?_
  rintro e w5 ⟨rfl, m5⟩
  have p5 := p4.trans m5.toPos
  go_wp2_with fail
  go_ret3
  rw [HE.out]
  exact ⟨_, rfl, HV.out _ _ _ _ HVV.out p4 m5.toPos, p5⟩

end Go.Proofs.YtoindammaphefaaGreatDoor
