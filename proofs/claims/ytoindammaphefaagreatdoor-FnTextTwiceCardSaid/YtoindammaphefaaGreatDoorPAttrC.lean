/- The walk of parseAttributeSelector: [key op "value"] and [key op "value" i]. Conditions: small names, values that stand for themselves. -/
import Derived.Test.YtoindammaphefaaGreatDoorPAttr
namespace Go.Proofs.YtoindammaphefaaGreatDoor
open Go.RowKit


set_option maxHeartbeats 4000000 in
set_option maxRecDepth 100000 in
theorem parseAttr_suf (g : Nat) (s : ByteArray) (i : Nat) (its : List (Bool × UInt8)) (body rest : List UInt8) (w : World) (hs : s.size ≤ 140737488351232)
    (c0 : w.cell? ⟨g, 0, none⟩ = some (.string s)) (c1 : w.cell? ⟨g, 1, none⟩ = some (.int .i64 i)) (f1 : w.frozen? ⟨g, 1, none⟩ = false)
    (hd : s.data.toList.drop i = 91 :: (wrt its ++ ([36, 61] ++ (34 :: (body ++ (34 :: 93 :: rest)))))) (hok : okItems its) (hne : its ≠ []) (hst2 : starts its) (hcap : noCap (dec its)) (hlen : (dec its).length ≤ 1000) (hb : ∀ c ∈ body, strB 34 c) :
    Calls Tryz.prog 42 #[.pointer (some ⟨g, 0, none⟩)] w fun e w' => AttrEnd (dec its) body [36, 61] false g (i + 1 + (wrt its).length + 2 + (body.length + 2) + 1) w e w' := by
  have hst : stops ([36, 61] ++ (34 :: (body ++ (34 :: 93 :: rest)))) := by intro c h; simp at h; subst h; decide
  have hd1 := drop_next hd
  have hd2 := drop_add hd1
  have hi : i < s.size := drop_lt hd
  have hc : s[i] = 91 := drop_get hd hi
  have hlt : (i : Int) < (s.size : Int) := by omega
  obtain ⟨j, hjd⟩ : ∃ j, j = i + 1 + (wrt its).length := ⟨_, rfl⟩
  rw [← hjd] at hd2 ⊢
  have hd3 : s.data.toList.drop (j + 2) = 34 :: (body ++ (34 :: 93 :: rest)) := drop_add (a := [36, 61]) hd2
  have hd4 := drop_add (drop_next hd3)
  have hd5 := drop_next hd4
  have hj : j < s.size := drop_lt (c := 36) (l := 61 :: 34 :: (body ++ (34 :: 93 :: rest))) hd2
  have hcj : s[j] = 36 := drop_get (c := 36) (l := 61 :: 34 :: (body ++ (34 :: 93 :: rest))) hd2 hj
  obtain ⟨q, hqd⟩ : ∃ q, q = j + 2 := ⟨_, rfl⟩
  rw [← hqd] at hd3
  have hjn : q < s.size := drop_lt hd3
  have hcn : s[q] = 34 := drop_get hd3 hjn
  have hltq : (q : Int) < (s.size : Int) := by omega
  have HQ := Lib.hid (show (j : Int) + 2 = (q : Int) by omega)
  obtain ⟨k, hkd⟩ : ∃ k, k = j + 2 + (body.length + 2) := ⟨_, rfl⟩
  rw [← hkd]
  rw [show j + 2 + 1 + body.length + 1 = k by omega] at hd5

  have hk1 : k < s.size := drop_lt hd5
  have hck : s[k] = 93 := drop_get hd5 hk1
  have hltk : (k : Int) < (s.size : Int) := by omega
  have S4 := Lib.hid (fun W d0 d1 fz => skip_any g s k 0 _ W hs (by omega) d0 d1 fz hd5 (noWs_of (by decide)))

  have hx : s.extract j (j + 2) = ⟨#[36, 61]⟩ := eq_of_data (extract_of_drop (a := [36, 61]) hd2)
  have S1 := Lib.hid (fun W d0 d1 fz => skip_any g s (i + 1) 0 _ W hs (by omega) d0 d1 fz hd1 (noWs_name hst2 hne))
  have HC := Lib.hid (fun W d0 d1 fz => parseIdentifier_any g s (i + 1) its _ W hs d0 d1 fz hd1 hok hst hne hst2)
  have S2 := Lib.hid (fun W d0 d1 fz => skip_any g s j 0 _ W hs (by omega) d0 d1 fz hd2 (noWs_of (by decide)))
  have S3 := Lib.hid (fun W d0 d1 fz => skip_any g s q 0 _ W hs (by omega) d0 d1 fz hd3 (noWs_of (by decide)))
  have HS := Lib.hid (fun W d0 d1 fz => parseString_any g s q 34 body _ W hs d0 d1 fz hd3 hb ⟨by decide, by decide, by decide, by decide, by decide⟩)
  have F := Lib.hid (fun (w' : World) (j : Nat) (h : Pos w w' g j) => h.facts c0 c1 f1)
  have hg : g < w.heap.size := cell_lt c0
  have hp := (Pos.start c1).below hg ((Below.refl w.heap.size w).alloc (Nat.le_refl _) (.cells #[.string ByteArray.empty, .string ByteArray.empty, .string ByteArray.empty, .bool false] 108))
  obtain ⟨d0, d1, df⟩ := F.out _ _ hp
  have HCap := Lib.hid hcap
  have HJ := Lib.hid hjd
  have HK := Lib.hid (show q + body.length + 2 = k by omega)
  have hlj : (j : Int) + 2 < (s.size : Int) := by omega
  clear hd hd1 hd2 hd3 hd4 hd5 hok hst hne hst2 hcap hjd hkd hqd hb
  go_enter Tryz.func42, Tryz.ntmps42
  go_wp2_with fail
  go_quiet (fail)
  go_wp2_with fail
  go_quiet (fail)
  go_wp2_with fail
  refine (S1.out _ ?_ ?_ ?_).mono ?_
  · exact (F.out _ _ ((hp.drewN _).set (i + 1))).1
  · exact (F.out _ _ ((hp.drewN _).set (i + 1))).2.1
  · exact (F.out _ _ ((hp.drewN _).set (i + 1))).2.2
  rintro e w1 ⟨rfl, m1⟩
  rw [Nat.add_zero] at m1
  have hN := Moved.new m1 hg
  have p1 := ((hp.drewN _).set (i + 1)).trans m1.toPos
  clear m1 d0 d1 df
  obtain ⟨d0, d1, df⟩ := F.out _ _ p1
  go_wp2_with fail
  refine (HC.out _ d0 d1 df).mono ?_
  rintro e w2 ⟨rk, rfl, hrk, m2⟩
  have hN2 := (m2.heap (by omega)).trans hN
  have p2 := p1.trans m2.toPos
  rw [← HJ.out] at p2
  have hks : rk.size ≤ 1000 := by rw [size_of_data hrk]; exact hlen
  have HRK := Lib.hid hrk
  clear m2 hN d0 d1 df hrk
  obtain ⟨d0, d1, df⟩ := F.out _ _ p2
  go_wp2_with fail
  refine (toLower_any rk _ (by omega) (by rw [HRK.out]; exact HCap.out)).mono ?_
  rintro e w3 ⟨rfl, rfl⟩
  go_wp2_with fail
  refine (S2.out _ d0 d1 df).mono ?_
  rintro e w4 ⟨rfl, m4⟩
  rw [Nat.add_zero] at m4
  have hN4 := (m4.heap (by omega)).trans hN2
  have p4 := p2.trans m4.toPos
  clear m4 hN2 d0 d1 df
  obtain ⟨d0, d1, df⟩ := F.out _ _ p4
  go_wp2_with fail
  go_quiet (fail)
  go_wp2_with fail
  go_quiet (fail)
  go_wp2_with fail
  go_quiet (fail)
  go_wp2_with fail
  go_quiet (fail)
  go_wp2_with fail
  rw [hx]
  simp only [HQ.out]
  refine (S3.out _ ?_ ?_ ?_).mono ?_
  · exact (F.out _ _ ((p4.drewN _).set q)).1
  · exact (F.out _ _ ((p4.drewN _).set q)).2.1
  · exact (F.out _ _ ((p4.drewN _).set q)).2.2
  rintro e w5 ⟨rfl, m5⟩
  rw [Nat.add_zero] at m5
  have hN5 := (m5.heap (k := w.heap.size) (by omega)).trans ((Below.heap_setCell _ ⟨g, 1, none⟩ _ _ (by show w.heap.size ≠ g; omega)).trans hN4)
  have p5 := ((p4.drewN _).set q).trans m5.toPos
  clear m5 hN4 d0 d1 df
  obtain ⟨d0, d1, df⟩ := F.out _ _ p5
  go_wp2_with fail
  go_quiet (fail)
  go_wp2_with fail
  go_quiet (fail)
  go_wp2_with fail
  refine (HS.out _ ?_ ?_ ?_).mono ?_
  · exact (F.out _ _ (p5.drewN _)).1
  · exact (F.out _ _ (p5.drewN _)).2.1
  · exact (F.out _ _ (p5.drewN _)).2.2
  rintro e w6 ⟨rv, rfl, hrv, m6⟩
  rw [HK.out] at m6
  have hN6 := (m6.heap (k := w.heap.size) (by omega)).trans hN5
  have p6 := (p5.drewN _).trans m6.toPos
  have HRV := Lib.hid hrv
  clear m6 hN5 d0 d1 df hrv
  obtain ⟨d0, d1, df⟩ := F.out _ _ p6
  go_wp2_with fail
  refine (S4.out _ d0 d1 df).mono ?_
  rintro e w7 ⟨rfl, m7⟩
  rw [Nat.add_zero] at m7
  have hN7 := (m7.heap (k := w.heap.size) (by omega)).trans hN6
  have p7 := p6.trans m7.toPos
  clear m7 hN6 d0 d1 df
  obtain ⟨d0, d1, df⟩ := F.out _ _ p7
  go_wp2_with fail
  go_quiet (fail)
  go_wp2_with fail
  go_quiet (fail)

  go_wp2_with fail
  refine (S4.out _ ?_ ?_ ?_).mono ?_
  · exact (F.out _ _ (p7.drewN _)).1
  · exact (F.out _ _ (p7.drewN _)).2.1
  · exact (F.out _ _ (p7.drewN _)).2.2
  rintro e w8 ⟨rfl, m8⟩
  rw [Nat.add_zero] at m8
  have hN8 := (m8.heap (k := w.heap.size) (by omega)).trans hN7
  have p8 := (p7.drewN _).trans m8.toPos
  clear m8 hN7 d0 d1 df
  obtain ⟨d0, d1, df⟩ := F.out _ _ p8
  have z0 : w8.cell? ⟨w.heap.size, 0, none⟩ = some (.string ByteArray.empty) := by rw [cell_of_row _ _ _ _ _ _ hN8]; rfl
  have z1 : w8.cell? ⟨w.heap.size, 1, none⟩ = some (.string ByteArray.empty) := by rw [cell_of_row _ _ _ _ _ _ hN8]; rfl
  have z2 : w8.cell? ⟨w.heap.size, 2, none⟩ = some (.string ByteArray.empty) := by rw [cell_of_row _ _ _ _ _ _ hN8]; rfl
  have z3 : w8.cell? ⟨w.heap.size, 3, none⟩ = some (.bool false) := by rw [cell_of_row _ _ _ _ _ _ hN8]; rfl
  have f0 := new_frozen hN8 0
  have f10 := new_frozen hN8 1
  have f2 := new_frozen hN8 2
  have f3 := new_frozen hN8 3
  go_wp2_with fail
  go_quiet (fail)
  go_wp2_with fail
  go_quiet (fail)
  go_wp2_with fail
  have hN9 : ∀ n : Nat, ((w8.drewN n).setCell ⟨g, 1, none⟩ (.int .i64 ((k : Int) + 1))).heap[w.heap.size]? = some (.cells #[.string ByteArray.empty, .string ByteArray.empty, .string ByteArray.empty, .bool false] 108 (0, 0)) :=
    fun n => (Below.heap_setCell _ ⟨g, 1, none⟩ _ _ (by show w.heap.size ≠ g; omega)).trans hN8
  have hN10 := fun n => set4 (b0 := .string rk) (b1 := .string rv) (b2 := .string ⟨#[36, 61]⟩) (b3 := .bool false) (hN9 n)
  have e0 := fun n => (cell_of_row _ _ 0 _ _ _ (hN10 n)).trans rfl
  have e1 := fun n => (cell_of_row _ _ 1 _ _ _ (hN10 n)).trans rfl
  have e2 := fun n => (cell_of_row _ _ 2 _ _ _ (hN10 n)).trans rfl
  have e3 := fun n => (cell_of_row _ _ 3 _ _ _ (hN10 n)).trans rfl
  refine bodyPost_ret (v := .tuple #[.agg #[.string rk, .string rv, .string ⟨#[36, 61]⟩, .bool false], .nilIface]) ?_ rfl ?_
  · simp [results, Tryz.results42, go_sem, e0, e1, e2, e3]
  · refine ⟨rk, rv, _, rfl, HRK.out, HRV.out, rfl, ?_⟩
    skip
    exact (((((p8.drewN _).set (k + 1)).own_ hg (Nat.le_refl _) _).own_ hg (Nat.le_refl _) _).own_ hg (Nat.le_refl _) _).own_ hg (Nat.le_refl _) _


set_option maxHeartbeats 4000000 in
set_option maxRecDepth 100000 in
theorem parseAttr_sufI (g : Nat) (s : ByteArray) (i : Nat) (its : List (Bool × UInt8)) (body rest : List UInt8) (w : World) (hs : s.size ≤ 140737488351232)
    (c0 : w.cell? ⟨g, 0, none⟩ = some (.string s)) (c1 : w.cell? ⟨g, 1, none⟩ = some (.int .i64 i)) (f1 : w.frozen? ⟨g, 1, none⟩ = false)
    (hd : s.data.toList.drop i = 91 :: (wrt its ++ ([36, 61] ++ (34 :: (body ++ (34 :: 32 :: 105 :: 93 :: rest)))))) (hok : okItems its) (hne : its ≠ []) (hst2 : starts its) (hcap : noCap (dec its)) (hlen : (dec its).length ≤ 1000) (hb : ∀ c ∈ body, strB 34 c) :
    Calls Tryz.prog 42 #[.pointer (some ⟨g, 0, none⟩)] w fun e w' => AttrEnd (dec its) body [36, 61] true g (i + 1 + (wrt its).length + 2 + (body.length + 2) + 3) w e w' := by
  have hst : stops ([36, 61] ++ (34 :: (body ++ (34 :: 32 :: 105 :: 93 :: rest)))) := by intro c h; simp at h; subst h; decide
  have hd1 := drop_next hd
  have hd2 := drop_add hd1
  have hi : i < s.size := drop_lt hd
  have hc : s[i] = 91 := drop_get hd hi
  have hlt : (i : Int) < (s.size : Int) := by omega
  obtain ⟨j, hjd⟩ : ∃ j, j = i + 1 + (wrt its).length := ⟨_, rfl⟩
  rw [← hjd] at hd2 ⊢
  have hd3 : s.data.toList.drop (j + 2) = 34 :: (body ++ (34 :: 32 :: 105 :: 93 :: rest)) := drop_add (a := [36, 61]) hd2
  have hd4 := drop_add (drop_next hd3)
  have hd5 := drop_next hd4
  have hj : j < s.size := drop_lt (c := 36) (l := 61 :: 34 :: (body ++ (34 :: 32 :: 105 :: 93 :: rest))) hd2
  have hcj : s[j] = 36 := drop_get (c := 36) (l := 61 :: 34 :: (body ++ (34 :: 32 :: 105 :: 93 :: rest))) hd2 hj
  obtain ⟨q, hqd⟩ : ∃ q, q = j + 2 := ⟨_, rfl⟩
  rw [← hqd] at hd3
  have hjn : q < s.size := drop_lt hd3
  have hcn : s[q] = 34 := drop_get hd3 hjn
  have hltq : (q : Int) < (s.size : Int) := by omega
  have HQ := Lib.hid (show (j : Int) + 2 = (q : Int) by omega)
  obtain ⟨k, hkd⟩ : ∃ k, k = j + 2 + (body.length + 2) := ⟨_, rfl⟩
  rw [← hkd]
  rw [show j + 2 + 1 + body.length + 1 = k by omega] at hd5

  have hk1 : k < s.size := drop_lt hd5
  obtain ⟨k1, hk1d⟩ : ∃ k1, k1 = k + 1 := ⟨_, rfl⟩
  obtain ⟨k2, hk2d⟩ : ∃ k2, k2 = k1 + 1 := ⟨_, rfl⟩
  have hd6 : s.data.toList.drop k1 = 105 :: 93 :: rest := by rw [hk1d]; exact drop_next hd5
  have hd7 : s.data.toList.drop k2 = 93 :: rest := by rw [hk2d]; exact drop_next hd6
  have hk2 : k1 < s.size := drop_lt hd6
  have hck : s[k1] = 105 := drop_get hd6 hk2
  have hltk : (k1 : Int) < (s.size : Int) := by omega
  have hk3 : k2 < s.size := drop_lt hd7
  have hcl : s[k2] = 93 := drop_get hd7 hk3
  have hltl : (k2 : Int) < (s.size : Int) := by omega
  have HK1 := Lib.hid hk1d
  have HK2 := Lib.hid (show (k1 : Int) + 1 = (k2 : Int) by omega)
  have HE := Lib.hid (show k2 + 1 = k + 3 by omega)
  have S4 := Lib.hid (fun W d0 d1 fz => skip_any g s k 1 _ W hs (by omega) d0 d1 fz hd5 (noWs_of (by decide)))
  have S5 := Lib.hid (fun W d0 d1 fz => skip_any g s k2 0 _ W hs (by omega) d0 d1 fz hd7 (noWs_of (by decide)))

  have hx : s.extract j (j + 2) = ⟨#[36, 61]⟩ := eq_of_data (extract_of_drop (a := [36, 61]) hd2)
  have S1 := Lib.hid (fun W d0 d1 fz => skip_any g s (i + 1) 0 _ W hs (by omega) d0 d1 fz hd1 (noWs_name hst2 hne))
  have HC := Lib.hid (fun W d0 d1 fz => parseIdentifier_any g s (i + 1) its _ W hs d0 d1 fz hd1 hok hst hne hst2)
  have S2 := Lib.hid (fun W d0 d1 fz => skip_any g s j 0 _ W hs (by omega) d0 d1 fz hd2 (noWs_of (by decide)))
  have S3 := Lib.hid (fun W d0 d1 fz => skip_any g s q 0 _ W hs (by omega) d0 d1 fz hd3 (noWs_of (by decide)))
  have HS := Lib.hid (fun W d0 d1 fz => parseString_any g s q 34 body _ W hs d0 d1 fz hd3 hb ⟨by decide, by decide, by decide, by decide, by decide⟩)
  have F := Lib.hid (fun (w' : World) (j : Nat) (h : Pos w w' g j) => h.facts c0 c1 f1)
  have hg : g < w.heap.size := cell_lt c0
  have hp := (Pos.start c1).below hg ((Below.refl w.heap.size w).alloc (Nat.le_refl _) (.cells #[.string ByteArray.empty, .string ByteArray.empty, .string ByteArray.empty, .bool false] 108))
  obtain ⟨d0, d1, df⟩ := F.out _ _ hp
  have HCap := Lib.hid hcap
  have HJ := Lib.hid hjd
  have HK := Lib.hid (show q + body.length + 2 = k by omega)
  have hlj : (j : Int) + 2 < (s.size : Int) := by omega
  clear hd hd1 hd2 hd3 hd4 hd5 hok hst hne hst2 hcap hjd hkd hqd hb hd6 hd7 hk1d hk2d
  go_enter Tryz.func42, Tryz.ntmps42
  go_wp2_with fail
  go_quiet (fail)
  go_wp2_with fail
  go_quiet (fail)
  go_wp2_with fail
  refine (S1.out _ ?_ ?_ ?_).mono ?_
  · exact (F.out _ _ ((hp.drewN _).set (i + 1))).1
  · exact (F.out _ _ ((hp.drewN _).set (i + 1))).2.1
  · exact (F.out _ _ ((hp.drewN _).set (i + 1))).2.2
  rintro e w1 ⟨rfl, m1⟩
  rw [Nat.add_zero] at m1
  have hN := Moved.new m1 hg
  have p1 := ((hp.drewN _).set (i + 1)).trans m1.toPos
  clear m1 d0 d1 df
  obtain ⟨d0, d1, df⟩ := F.out _ _ p1
  go_wp2_with fail
  refine (HC.out _ d0 d1 df).mono ?_
  rintro e w2 ⟨rk, rfl, hrk, m2⟩
  have hN2 := (m2.heap (by omega)).trans hN
  have p2 := p1.trans m2.toPos
  rw [← HJ.out] at p2
  have hks : rk.size ≤ 1000 := by rw [size_of_data hrk]; exact hlen
  have HRK := Lib.hid hrk
  clear m2 hN d0 d1 df hrk
  obtain ⟨d0, d1, df⟩ := F.out _ _ p2
  go_wp2_with fail
  refine (toLower_any rk _ (by omega) (by rw [HRK.out]; exact HCap.out)).mono ?_
  rintro e w3 ⟨rfl, rfl⟩
  go_wp2_with fail
  refine (S2.out _ d0 d1 df).mono ?_
  rintro e w4 ⟨rfl, m4⟩
  rw [Nat.add_zero] at m4
  have hN4 := (m4.heap (by omega)).trans hN2
  have p4 := p2.trans m4.toPos
  clear m4 hN2 d0 d1 df
  obtain ⟨d0, d1, df⟩ := F.out _ _ p4
  go_wp2_with fail
  go_quiet (fail)
  go_wp2_with fail
  go_quiet (fail)
  go_wp2_with fail
  go_quiet (fail)
  go_wp2_with fail
  go_quiet (fail)
  go_wp2_with fail
  rw [hx]
  simp only [HQ.out]
  refine (S3.out _ ?_ ?_ ?_).mono ?_
  · exact (F.out _ _ ((p4.drewN _).set q)).1
  · exact (F.out _ _ ((p4.drewN _).set q)).2.1
  · exact (F.out _ _ ((p4.drewN _).set q)).2.2
  rintro e w5 ⟨rfl, m5⟩
  rw [Nat.add_zero] at m5
  have hN5 := (m5.heap (k := w.heap.size) (by omega)).trans ((Below.heap_setCell _ ⟨g, 1, none⟩ _ _ (by show w.heap.size ≠ g; omega)).trans hN4)
  have p5 := ((p4.drewN _).set q).trans m5.toPos
  clear m5 hN4 d0 d1 df
  obtain ⟨d0, d1, df⟩ := F.out _ _ p5
  go_wp2_with fail
  go_quiet (fail)
  go_wp2_with fail
  go_quiet (fail)
  go_wp2_with fail
  refine (HS.out _ ?_ ?_ ?_).mono ?_
  · exact (F.out _ _ (p5.drewN _)).1
  · exact (F.out _ _ (p5.drewN _)).2.1
  · exact (F.out _ _ (p5.drewN _)).2.2
  rintro e w6 ⟨rv, rfl, hrv, m6⟩
  rw [HK.out] at m6
  have hN6 := (m6.heap (k := w.heap.size) (by omega)).trans hN5
  have p6 := (p5.drewN _).trans m6.toPos
  have HRV := Lib.hid hrv
  clear m6 hN5 d0 d1 df hrv
  obtain ⟨d0, d1, df⟩ := F.out _ _ p6
  go_wp2_with fail
  refine (S4.out _ d0 d1 df).mono ?_
  rintro e w7 ⟨rfl, m7⟩
  rw [← HK1.out] at m7
  have hN7 := (m7.heap (k := w.heap.size) (by omega)).trans hN6
  have p7 := p6.trans m7.toPos
  clear m7 hN6 d0 d1 df
  obtain ⟨d0, d1, df⟩ := F.out _ _ p7
  go_wp2_with fail
  go_quiet (fail)
  go_wp2_with fail
  go_quiet (fail)

  go_wp2_with fail
  simp only [HK2.out]
  refine (S5.out _ ?_ ?_ ?_).mono ?_
  · exact (F.out _ _ ((p7.drewN _).set k2)).1
  · exact (F.out _ _ ((p7.drewN _).set k2)).2.1
  · exact (F.out _ _ ((p7.drewN _).set k2)).2.2
  rintro e w8 ⟨rfl, m8⟩
  rw [Nat.add_zero] at m8
  have hN8 := (m8.heap (k := w.heap.size) (by omega)).trans ((Below.heap_setCell _ ⟨g, 1, none⟩ _ _ (by show w.heap.size ≠ g; omega)).trans hN7)
  have p8 := ((p7.drewN _).set k2).trans m8.toPos
  clear m8 hN7 d0 d1 df
  obtain ⟨d0, d1, df⟩ := F.out _ _ p8
  have z0 : w8.cell? ⟨w.heap.size, 0, none⟩ = some (.string ByteArray.empty) := by rw [cell_of_row _ _ _ _ _ _ hN8]; rfl
  have z1 : w8.cell? ⟨w.heap.size, 1, none⟩ = some (.string ByteArray.empty) := by rw [cell_of_row _ _ _ _ _ _ hN8]; rfl
  have z2 : w8.cell? ⟨w.heap.size, 2, none⟩ = some (.string ByteArray.empty) := by rw [cell_of_row _ _ _ _ _ _ hN8]; rfl
  have z3 : w8.cell? ⟨w.heap.size, 3, none⟩ = some (.bool false) := by rw [cell_of_row _ _ _ _ _ _ hN8]; rfl
  have f0 := new_frozen hN8 0
  have f10 := new_frozen hN8 1
  have f2 := new_frozen hN8 2
  have f3 := new_frozen hN8 3
  go_wp2_with fail
  go_quiet (fail)
  go_wp2_with fail
  go_quiet (fail)
  go_wp2_with fail
  have hN9 : ∀ n : Nat, ((w8.drewN n).setCell ⟨g, 1, none⟩ (.int .i64 ((k2 : Int) + 1))).heap[w.heap.size]? = some (.cells #[.string ByteArray.empty, .string ByteArray.empty, .string ByteArray.empty, .bool false] 108 (0, 0)) :=
    fun n => (Below.heap_setCell _ ⟨g, 1, none⟩ _ _ (by show w.heap.size ≠ g; omega)).trans hN8
  have hN10 := fun n => set4 (b0 := .string rk) (b1 := .string rv) (b2 := .string ⟨#[36, 61]⟩) (b3 := .bool true) (hN9 n)
  have e0 := fun n => (cell_of_row _ _ 0 _ _ _ (hN10 n)).trans rfl
  have e1 := fun n => (cell_of_row _ _ 1 _ _ _ (hN10 n)).trans rfl
  have e2 := fun n => (cell_of_row _ _ 2 _ _ _ (hN10 n)).trans rfl
  have e3 := fun n => (cell_of_row _ _ 3 _ _ _ (hN10 n)).trans rfl
  refine bodyPost_ret (v := .tuple #[.agg #[.string rk, .string rv, .string ⟨#[36, 61]⟩, .bool true], .nilIface]) ?_ rfl ?_
  · simp [results, Tryz.results42, go_sem, e0, e1, e2, e3]
  · refine ⟨rk, rv, _, rfl, HRK.out, HRV.out, rfl, ?_⟩
    rw [show k + 3 = k2 + 1 from HE.out.symm]
    exact (((((p8.drewN _).set (k2 + 1)).own_ hg (Nat.le_refl _) _).own_ hg (Nat.le_refl _) _).own_ hg (Nat.le_refl _) _).own_ hg (Nat.le_refl _) _


set_option maxHeartbeats 4000000 in
set_option maxRecDepth 100000 in
theorem parseAttr_part (g : Nat) (s : ByteArray) (i : Nat) (its : List (Bool × UInt8)) (body rest : List UInt8) (w : World) (hs : s.size ≤ 140737488351232)
    (c0 : w.cell? ⟨g, 0, none⟩ = some (.string s)) (c1 : w.cell? ⟨g, 1, none⟩ = some (.int .i64 i)) (f1 : w.frozen? ⟨g, 1, none⟩ = false)
    (hd : s.data.toList.drop i = 91 :: (wrt its ++ ([42, 61] ++ (34 :: (body ++ (34 :: 93 :: rest)))))) (hok : okItems its) (hne : its ≠ []) (hst2 : starts its) (hcap : noCap (dec its)) (hlen : (dec its).length ≤ 1000) (hb : ∀ c ∈ body, strB 34 c) :
    Calls Tryz.prog 42 #[.pointer (some ⟨g, 0, none⟩)] w fun e w' => AttrEnd (dec its) body [42, 61] false g (i + 1 + (wrt its).length + 2 + (body.length + 2) + 1) w e w' := by
  have hst : stops ([42, 61] ++ (34 :: (body ++ (34 :: 93 :: rest)))) := by intro c h; simp at h; subst h; decide
  have hd1 := drop_next hd
  have hd2 := drop_add hd1
  have hi : i < s.size := drop_lt hd
  have hc : s[i] = 91 := drop_get hd hi
  have hlt : (i : Int) < (s.size : Int) := by omega
  obtain ⟨j, hjd⟩ : ∃ j, j = i + 1 + (wrt its).length := ⟨_, rfl⟩
  rw [← hjd] at hd2 ⊢
  have hd3 : s.data.toList.drop (j + 2) = 34 :: (body ++ (34 :: 93 :: rest)) := drop_add (a := [42, 61]) hd2
  have hd4 := drop_add (drop_next hd3)
  have hd5 := drop_next hd4
  have hj : j < s.size := drop_lt (c := 42) (l := 61 :: 34 :: (body ++ (34 :: 93 :: rest))) hd2
  have hcj : s[j] = 42 := drop_get (c := 42) (l := 61 :: 34 :: (body ++ (34 :: 93 :: rest))) hd2 hj
  obtain ⟨q, hqd⟩ : ∃ q, q = j + 2 := ⟨_, rfl⟩
  rw [← hqd] at hd3
  have hjn : q < s.size := drop_lt hd3
  have hcn : s[q] = 34 := drop_get hd3 hjn
  have hltq : (q : Int) < (s.size : Int) := by omega
  have HQ := Lib.hid (show (j : Int) + 2 = (q : Int) by omega)
  obtain ⟨k, hkd⟩ : ∃ k, k = j + 2 + (body.length + 2) := ⟨_, rfl⟩
  rw [← hkd]
  rw [show j + 2 + 1 + body.length + 1 = k by omega] at hd5

  have hk1 : k < s.size := drop_lt hd5
  have hck : s[k] = 93 := drop_get hd5 hk1
  have hltk : (k : Int) < (s.size : Int) := by omega
  have S4 := Lib.hid (fun W d0 d1 fz => skip_any g s k 0 _ W hs (by omega) d0 d1 fz hd5 (noWs_of (by decide)))

  have hx : s.extract j (j + 2) = ⟨#[42, 61]⟩ := eq_of_data (extract_of_drop (a := [42, 61]) hd2)
  have S1 := Lib.hid (fun W d0 d1 fz => skip_any g s (i + 1) 0 _ W hs (by omega) d0 d1 fz hd1 (noWs_name hst2 hne))
  have HC := Lib.hid (fun W d0 d1 fz => parseIdentifier_any g s (i + 1) its _ W hs d0 d1 fz hd1 hok hst hne hst2)
  have S2 := Lib.hid (fun W d0 d1 fz => skip_any g s j 0 _ W hs (by omega) d0 d1 fz hd2 (noWs_of (by decide)))
  have S3 := Lib.hid (fun W d0 d1 fz => skip_any g s q 0 _ W hs (by omega) d0 d1 fz hd3 (noWs_of (by decide)))
  have HS := Lib.hid (fun W d0 d1 fz => parseString_any g s q 34 body _ W hs d0 d1 fz hd3 hb ⟨by decide, by decide, by decide, by decide, by decide⟩)
  have F := Lib.hid (fun (w' : World) (j : Nat) (h : Pos w w' g j) => h.facts c0 c1 f1)
  have hg : g < w.heap.size := cell_lt c0
  have hp := (Pos.start c1).below hg ((Below.refl w.heap.size w).alloc (Nat.le_refl _) (.cells #[.string ByteArray.empty, .string ByteArray.empty, .string ByteArray.empty, .bool false] 108))
  obtain ⟨d0, d1, df⟩ := F.out _ _ hp
  have HCap := Lib.hid hcap
  have HJ := Lib.hid hjd
  have HK := Lib.hid (show q + body.length + 2 = k by omega)
  have hlj : (j : Int) + 2 < (s.size : Int) := by omega
  clear hd hd1 hd2 hd3 hd4 hd5 hok hst hne hst2 hcap hjd hkd hqd hb
  go_enter Tryz.func42, Tryz.ntmps42
  go_wp2_with fail
  go_quiet (fail)
  go_wp2_with fail
  go_quiet (fail)
  go_wp2_with fail
  refine (S1.out _ ?_ ?_ ?_).mono ?_
  · exact (F.out _ _ ((hp.drewN _).set (i + 1))).1
  · exact (F.out _ _ ((hp.drewN _).set (i + 1))).2.1
  · exact (F.out _ _ ((hp.drewN _).set (i + 1))).2.2
  rintro e w1 ⟨rfl, m1⟩
  rw [Nat.add_zero] at m1
  have hN := Moved.new m1 hg
  have p1 := ((hp.drewN _).set (i + 1)).trans m1.toPos
  clear m1 d0 d1 df
  obtain ⟨d0, d1, df⟩ := F.out _ _ p1
  go_wp2_with fail
  refine (HC.out _ d0 d1 df).mono ?_
  rintro e w2 ⟨rk, rfl, hrk, m2⟩
  have hN2 := (m2.heap (by omega)).trans hN
  have p2 := p1.trans m2.toPos
  rw [← HJ.out] at p2
  have hks : rk.size ≤ 1000 := by rw [size_of_data hrk]; exact hlen
  have HRK := Lib.hid hrk
  clear m2 hN d0 d1 df hrk
  obtain ⟨d0, d1, df⟩ := F.out _ _ p2
  go_wp2_with fail
  refine (toLower_any rk _ (by omega) (by rw [HRK.out]; exact HCap.out)).mono ?_
  rintro e w3 ⟨rfl, rfl⟩
  go_wp2_with fail
  refine (S2.out _ d0 d1 df).mono ?_
  rintro e w4 ⟨rfl, m4⟩
  rw [Nat.add_zero] at m4
  have hN4 := (m4.heap (by omega)).trans hN2
  have p4 := p2.trans m4.toPos
  clear m4 hN2 d0 d1 df
  obtain ⟨d0, d1, df⟩ := F.out _ _ p4
  go_wp2_with fail
  go_quiet (fail)
  go_wp2_with fail
  go_quiet (fail)
  go_wp2_with fail
  go_quiet (fail)
  go_wp2_with fail
  go_quiet (fail)
  go_wp2_with fail
  rw [hx]
  simp only [HQ.out]
  refine (S3.out _ ?_ ?_ ?_).mono ?_
  · exact (F.out _ _ ((p4.drewN _).set q)).1
  · exact (F.out _ _ ((p4.drewN _).set q)).2.1
  · exact (F.out _ _ ((p4.drewN _).set q)).2.2
  rintro e w5 ⟨rfl, m5⟩
  rw [Nat.add_zero] at m5
  have hN5 := (m5.heap (k := w.heap.size) (by omega)).trans ((Below.heap_setCell _ ⟨g, 1, none⟩ _ _ (by show w.heap.size ≠ g; omega)).trans hN4)
  have p5 := ((p4.drewN _).set q).trans m5.toPos
  clear m5 hN4 d0 d1 df
  obtain ⟨d0, d1, df⟩ := F.out _ _ p5
  go_wp2_with fail
  go_quiet (fail)
  go_wp2_with fail
  go_quiet (fail)
  go_wp2_with fail
  refine (HS.out _ ?_ ?_ ?_).mono ?_
  · exact (F.out _ _ (p5.drewN _)).1
  · exact (F.out _ _ (p5.drewN _)).2.1
  · exact (F.out _ _ (p5.drewN _)).2.2
  rintro e w6 ⟨rv, rfl, hrv, m6⟩
  rw [HK.out] at m6
  have hN6 := (m6.heap (k := w.heap.size) (by omega)).trans hN5
  have p6 := (p5.drewN _).trans m6.toPos
  have HRV := Lib.hid hrv
  clear m6 hN5 d0 d1 df hrv
  obtain ⟨d0, d1, df⟩ := F.out _ _ p6
  go_wp2_with fail
  refine (S4.out _ d0 d1 df).mono ?_
  rintro e w7 ⟨rfl, m7⟩
  rw [Nat.add_zero] at m7
  have hN7 := (m7.heap (k := w.heap.size) (by omega)).trans hN6
  have p7 := p6.trans m7.toPos
  clear m7 hN6 d0 d1 df
  obtain ⟨d0, d1, df⟩ := F.out _ _ p7
  go_wp2_with fail
  go_quiet (fail)
  go_wp2_with fail
  go_quiet (fail)

  go_wp2_with fail
  refine (S4.out _ ?_ ?_ ?_).mono ?_
  · exact (F.out _ _ (p7.drewN _)).1
  · exact (F.out _ _ (p7.drewN _)).2.1
  · exact (F.out _ _ (p7.drewN _)).2.2
  rintro e w8 ⟨rfl, m8⟩
  rw [Nat.add_zero] at m8
  have hN8 := (m8.heap (k := w.heap.size) (by omega)).trans hN7
  have p8 := (p7.drewN _).trans m8.toPos
  clear m8 hN7 d0 d1 df
  obtain ⟨d0, d1, df⟩ := F.out _ _ p8
  have z0 : w8.cell? ⟨w.heap.size, 0, none⟩ = some (.string ByteArray.empty) := by rw [cell_of_row _ _ _ _ _ _ hN8]; rfl
  have z1 : w8.cell? ⟨w.heap.size, 1, none⟩ = some (.string ByteArray.empty) := by rw [cell_of_row _ _ _ _ _ _ hN8]; rfl
  have z2 : w8.cell? ⟨w.heap.size, 2, none⟩ = some (.string ByteArray.empty) := by rw [cell_of_row _ _ _ _ _ _ hN8]; rfl
  have z3 : w8.cell? ⟨w.heap.size, 3, none⟩ = some (.bool false) := by rw [cell_of_row _ _ _ _ _ _ hN8]; rfl
  have f0 := new_frozen hN8 0
  have f10 := new_frozen hN8 1
  have f2 := new_frozen hN8 2
  have f3 := new_frozen hN8 3
  go_wp2_with fail
  go_quiet (fail)
  go_wp2_with fail
  go_quiet (fail)
  go_wp2_with fail
  have hN9 : ∀ n : Nat, ((w8.drewN n).setCell ⟨g, 1, none⟩ (.int .i64 ((k : Int) + 1))).heap[w.heap.size]? = some (.cells #[.string ByteArray.empty, .string ByteArray.empty, .string ByteArray.empty, .bool false] 108 (0, 0)) :=
    fun n => (Below.heap_setCell _ ⟨g, 1, none⟩ _ _ (by show w.heap.size ≠ g; omega)).trans hN8
  have hN10 := fun n => set4 (b0 := .string rk) (b1 := .string rv) (b2 := .string ⟨#[42, 61]⟩) (b3 := .bool false) (hN9 n)
  have e0 := fun n => (cell_of_row _ _ 0 _ _ _ (hN10 n)).trans rfl
  have e1 := fun n => (cell_of_row _ _ 1 _ _ _ (hN10 n)).trans rfl
  have e2 := fun n => (cell_of_row _ _ 2 _ _ _ (hN10 n)).trans rfl
  have e3 := fun n => (cell_of_row _ _ 3 _ _ _ (hN10 n)).trans rfl
  refine bodyPost_ret (v := .tuple #[.agg #[.string rk, .string rv, .string ⟨#[42, 61]⟩, .bool false], .nilIface]) ?_ rfl ?_
  · simp [results, Tryz.results42, go_sem, e0, e1, e2, e3]
  · refine ⟨rk, rv, _, rfl, HRK.out, HRV.out, rfl, ?_⟩
    skip
    exact (((((p8.drewN _).set (k + 1)).own_ hg (Nat.le_refl _) _).own_ hg (Nat.le_refl _) _).own_ hg (Nat.le_refl _) _).own_ hg (Nat.le_refl _) _


set_option maxHeartbeats 4000000 in
set_option maxRecDepth 100000 in
theorem parseAttr_partI (g : Nat) (s : ByteArray) (i : Nat) (its : List (Bool × UInt8)) (body rest : List UInt8) (w : World) (hs : s.size ≤ 140737488351232)
    (c0 : w.cell? ⟨g, 0, none⟩ = some (.string s)) (c1 : w.cell? ⟨g, 1, none⟩ = some (.int .i64 i)) (f1 : w.frozen? ⟨g, 1, none⟩ = false)
    (hd : s.data.toList.drop i = 91 :: (wrt its ++ ([42, 61] ++ (34 :: (body ++ (34 :: 32 :: 105 :: 93 :: rest)))))) (hok : okItems its) (hne : its ≠ []) (hst2 : starts its) (hcap : noCap (dec its)) (hlen : (dec its).length ≤ 1000) (hb : ∀ c ∈ body, strB 34 c) :
    Calls Tryz.prog 42 #[.pointer (some ⟨g, 0, none⟩)] w fun e w' => AttrEnd (dec its) body [42, 61] true g (i + 1 + (wrt its).length + 2 + (body.length + 2) + 3) w e w' := by
  have hst : stops ([42, 61] ++ (34 :: (body ++ (34 :: 32 :: 105 :: 93 :: rest)))) := by intro c h; simp at h; subst h; decide
  have hd1 := drop_next hd
  have hd2 := drop_add hd1
  have hi : i < s.size := drop_lt hd
  have hc : s[i] = 91 := drop_get hd hi
  have hlt : (i : Int) < (s.size : Int) := by omega
  obtain ⟨j, hjd⟩ : ∃ j, j = i + 1 + (wrt its).length := ⟨_, rfl⟩
  rw [← hjd] at hd2 ⊢
  have hd3 : s.data.toList.drop (j + 2) = 34 :: (body ++ (34 :: 32 :: 105 :: 93 :: rest)) := drop_add (a := [42, 61]) hd2
  have hd4 := drop_add (drop_next hd3)
  have hd5 := drop_next hd4
  have hj : j < s.size := drop_lt (c := 42) (l := 61 :: 34 :: (body ++ (34 :: 32 :: 105 :: 93 :: rest))) hd2
  have hcj : s[j] = 42 := drop_get (c := 42) (l := 61 :: 34 :: (body ++ (34 :: 32 :: 105 :: 93 :: rest))) hd2 hj
  obtain ⟨q, hqd⟩ : ∃ q, q = j + 2 := ⟨_, rfl⟩
  rw [← hqd] at hd3
  have hjn : q < s.size := drop_lt hd3
  have hcn : s[q] = 34 := drop_get hd3 hjn
  have hltq : (q : Int) < (s.size : Int) := by omega
  have HQ := Lib.hid (show (j : Int) + 2 = (q : Int) by omega)
  obtain ⟨k, hkd⟩ : ∃ k, k = j + 2 + (body.length + 2) := ⟨_, rfl⟩
  rw [← hkd]
  rw [show j + 2 + 1 + body.length + 1 = k by omega] at hd5

  have hk1 : k < s.size := drop_lt hd5
  obtain ⟨k1, hk1d⟩ : ∃ k1, k1 = k + 1 := ⟨_, rfl⟩
  obtain ⟨k2, hk2d⟩ : ∃ k2, k2 = k1 + 1 := ⟨_, rfl⟩
  have hd6 : s.data.toList.drop k1 = 105 :: 93 :: rest := by rw [hk1d]; exact drop_next hd5
  have hd7 : s.data.toList.drop k2 = 93 :: rest := by rw [hk2d]; exact drop_next hd6
  have hk2 : k1 < s.size := drop_lt hd6
  have hck : s[k1] = 105 := drop_get hd6 hk2
  have hltk : (k1 : Int) < (s.size : Int) := by omega
  have hk3 : k2 < s.size := drop_lt hd7
  have hcl : s[k2] = 93 := drop_get hd7 hk3
  have hltl : (k2 : Int) < (s.size : Int) := by omega
  have HK1 := Lib.hid hk1d
  have HK2 := Lib.hid (show (k1 : Int) + 1 = (k2 : Int) by omega)
  have HE := Lib.hid (show k2 + 1 = k + 3 by omega)
  have S4 := Lib.hid (fun W d0 d1 fz => skip_any g s k 1 _ W hs (by omega) d0 d1 fz hd5 (noWs_of (by decide)))
  have S5 := Lib.hid (fun W d0 d1 fz => skip_any g s k2 0 _ W hs (by omega) d0 d1 fz hd7 (noWs_of (by decide)))

  have hx : s.extract j (j + 2) = ⟨#[42, 61]⟩ := eq_of_data (extract_of_drop (a := [42, 61]) hd2)
  have S1 := Lib.hid (fun W d0 d1 fz => skip_any g s (i + 1) 0 _ W hs (by omega) d0 d1 fz hd1 (noWs_name hst2 hne))
  have HC := Lib.hid (fun W d0 d1 fz => parseIdentifier_any g s (i + 1) its _ W hs d0 d1 fz hd1 hok hst hne hst2)
  have S2 := Lib.hid (fun W d0 d1 fz => skip_any g s j 0 _ W hs (by omega) d0 d1 fz hd2 (noWs_of (by decide)))
  have S3 := Lib.hid (fun W d0 d1 fz => skip_any g s q 0 _ W hs (by omega) d0 d1 fz hd3 (noWs_of (by decide)))
  have HS := Lib.hid (fun W d0 d1 fz => parseString_any g s q 34 body _ W hs d0 d1 fz hd3 hb ⟨by decide, by decide, by decide, by decide, by decide⟩)
  have F := Lib.hid (fun (w' : World) (j : Nat) (h : Pos w w' g j) => h.facts c0 c1 f1)
  have hg : g < w.heap.size := cell_lt c0
  have hp := (Pos.start c1).below hg ((Below.refl w.heap.size w).alloc (Nat.le_refl _) (.cells #[.string ByteArray.empty, .string ByteArray.empty, .string ByteArray.empty, .bool false] 108))
  obtain ⟨d0, d1, df⟩ := F.out _ _ hp
  have HCap := Lib.hid hcap
  have HJ := Lib.hid hjd
  have HK := Lib.hid (show q + body.length + 2 = k by omega)
  have hlj : (j : Int) + 2 < (s.size : Int) := by omega
  clear hd hd1 hd2 hd3 hd4 hd5 hok hst hne hst2 hcap hjd hkd hqd hb hd6 hd7 hk1d hk2d
  go_enter Tryz.func42, Tryz.ntmps42
  go_wp2_with fail
  go_quiet (fail)
  go_wp2_with fail
  go_quiet (fail)
  go_wp2_with fail
  refine (S1.out _ ?_ ?_ ?_).mono ?_
  · exact (F.out _ _ ((hp.drewN _).set (i + 1))).1
  · exact (F.out _ _ ((hp.drewN _).set (i + 1))).2.1
  · exact (F.out _ _ ((hp.drewN _).set (i + 1))).2.2
  rintro e w1 ⟨rfl, m1⟩
  rw [Nat.add_zero] at m1
  have hN := Moved.new m1 hg
  have p1 := ((hp.drewN _).set (i + 1)).trans m1.toPos
  clear m1 d0 d1 df
  obtain ⟨d0, d1, df⟩ := F.out _ _ p1
  go_wp2_with fail
  refine (HC.out _ d0 d1 df).mono ?_
  rintro e w2 ⟨rk, rfl, hrk, m2⟩
  have hN2 := (m2.heap (by omega)).trans hN
  have p2 := p1.trans m2.toPos
  rw [← HJ.out] at p2
  have hks : rk.size ≤ 1000 := by rw [size_of_data hrk]; exact hlen
  have HRK := Lib.hid hrk
  clear m2 hN d0 d1 df hrk
  obtain ⟨d0, d1, df⟩ := F.out _ _ p2
  go_wp2_with fail
  refine (toLower_any rk _ (by omega) (by rw [HRK.out]; exact HCap.out)).mono ?_
  rintro e w3 ⟨rfl, rfl⟩
  go_wp2_with fail
  refine (S2.out _ d0 d1 df).mono ?_
  rintro e w4 ⟨rfl, m4⟩
  rw [Nat.add_zero] at m4
  have hN4 := (m4.heap (by omega)).trans hN2
  have p4 := p2.trans m4.toPos
  clear m4 hN2 d0 d1 df
  obtain ⟨d0, d1, df⟩ := F.out _ _ p4
  go_wp2_with fail
  go_quiet (fail)
  go_wp2_with fail
  go_quiet (fail)
  go_wp2_with fail
  go_quiet (fail)
  go_wp2_with fail
  go_quiet (fail)
  go_wp2_with fail
  rw [hx]
  simp only [HQ.out]
  refine (S3.out _ ?_ ?_ ?_).mono ?_
  · exact (F.out _ _ ((p4.drewN _).set q)).1
  · exact (F.out _ _ ((p4.drewN _).set q)).2.1
  · exact (F.out _ _ ((p4.drewN _).set q)).2.2
  rintro e w5 ⟨rfl, m5⟩
  rw [Nat.add_zero] at m5
  have hN5 := (m5.heap (k := w.heap.size) (by omega)).trans ((Below.heap_setCell _ ⟨g, 1, none⟩ _ _ (by show w.heap.size ≠ g; omega)).trans hN4)
  have p5 := ((p4.drewN _).set q).trans m5.toPos
  clear m5 hN4 d0 d1 df
  obtain ⟨d0, d1, df⟩ := F.out _ _ p5
  go_wp2_with fail
  go_quiet (fail)
  go_wp2_with fail
  go_quiet (fail)
  go_wp2_with fail
  refine (HS.out _ ?_ ?_ ?_).mono ?_
  · exact (F.out _ _ (p5.drewN _)).1
  · exact (F.out _ _ (p5.drewN _)).2.1
  · exact (F.out _ _ (p5.drewN _)).2.2
  rintro e w6 ⟨rv, rfl, hrv, m6⟩
  rw [HK.out] at m6
  have hN6 := (m6.heap (k := w.heap.size) (by omega)).trans hN5
  have p6 := (p5.drewN _).trans m6.toPos
  have HRV := Lib.hid hrv
  clear m6 hN5 d0 d1 df hrv
  obtain ⟨d0, d1, df⟩ := F.out _ _ p6
  go_wp2_with fail
  refine (S4.out _ d0 d1 df).mono ?_
  rintro e w7 ⟨rfl, m7⟩
  rw [← HK1.out] at m7
  have hN7 := (m7.heap (k := w.heap.size) (by omega)).trans hN6
  have p7 := p6.trans m7.toPos
  clear m7 hN6 d0 d1 df
  obtain ⟨d0, d1, df⟩ := F.out _ _ p7
  go_wp2_with fail
  go_quiet (fail)
  go_wp2_with fail
  go_quiet (fail)

  go_wp2_with fail
  simp only [HK2.out]
  refine (S5.out _ ?_ ?_ ?_).mono ?_
  · exact (F.out _ _ ((p7.drewN _).set k2)).1
  · exact (F.out _ _ ((p7.drewN _).set k2)).2.1
  · exact (F.out _ _ ((p7.drewN _).set k2)).2.2
  rintro e w8 ⟨rfl, m8⟩
  rw [Nat.add_zero] at m8
  have hN8 := (m8.heap (k := w.heap.size) (by omega)).trans ((Below.heap_setCell _ ⟨g, 1, none⟩ _ _ (by show w.heap.size ≠ g; omega)).trans hN7)
  have p8 := ((p7.drewN _).set k2).trans m8.toPos
  clear m8 hN7 d0 d1 df
  obtain ⟨d0, d1, df⟩ := F.out _ _ p8
  have z0 : w8.cell? ⟨w.heap.size, 0, none⟩ = some (.string ByteArray.empty) := by rw [cell_of_row _ _ _ _ _ _ hN8]; rfl
  have z1 : w8.cell? ⟨w.heap.size, 1, none⟩ = some (.string ByteArray.empty) := by rw [cell_of_row _ _ _ _ _ _ hN8]; rfl
  have z2 : w8.cell? ⟨w.heap.size, 2, none⟩ = some (.string ByteArray.empty) := by rw [cell_of_row _ _ _ _ _ _ hN8]; rfl
  have z3 : w8.cell? ⟨w.heap.size, 3, none⟩ = some (.bool false) := by rw [cell_of_row _ _ _ _ _ _ hN8]; rfl
  have f0 := new_frozen hN8 0
  have f10 := new_frozen hN8 1
  have f2 := new_frozen hN8 2
  have f3 := new_frozen hN8 3
  go_wp2_with fail
  go_quiet (fail)
  go_wp2_with fail
  go_quiet (fail)
  go_wp2_with fail
  have hN9 : ∀ n : Nat, ((w8.drewN n).setCell ⟨g, 1, none⟩ (.int .i64 ((k2 : Int) + 1))).heap[w.heap.size]? = some (.cells #[.string ByteArray.empty, .string ByteArray.empty, .string ByteArray.empty, .bool false] 108 (0, 0)) :=
    fun n => (Below.heap_setCell _ ⟨g, 1, none⟩ _ _ (by show w.heap.size ≠ g; omega)).trans hN8
  have hN10 := fun n => set4 (b0 := .string rk) (b1 := .string rv) (b2 := .string ⟨#[42, 61]⟩) (b3 := .bool true) (hN9 n)
  have e0 := fun n => (cell_of_row _ _ 0 _ _ _ (hN10 n)).trans rfl
  have e1 := fun n => (cell_of_row _ _ 1 _ _ _ (hN10 n)).trans rfl
  have e2 := fun n => (cell_of_row _ _ 2 _ _ _ (hN10 n)).trans rfl
  have e3 := fun n => (cell_of_row _ _ 3 _ _ _ (hN10 n)).trans rfl
  refine bodyPost_ret (v := .tuple #[.agg #[.string rk, .string rv, .string ⟨#[42, 61]⟩, .bool true], .nilIface]) ?_ rfl ?_
  · simp [results, Tryz.results42, go_sem, e0, e1, e2, e3]
  · refine ⟨rk, rv, _, rfl, HRK.out, HRV.out, rfl, ?_⟩
    rw [show k + 3 = k2 + 1 from HE.out.symm]
    exact (((((p8.drewN _).set (k2 + 1)).own_ hg (Nat.le_refl _) _).own_ hg (Nat.le_refl _) _).own_ hg (Nat.le_refl _) _).own_ hg (Nat.le_refl _) _


set_option maxHeartbeats 4000000 in
set_option maxRecDepth 100000 in
theorem parseAttr_ne (g : Nat) (s : ByteArray) (i : Nat) (its : List (Bool × UInt8)) (body rest : List UInt8) (w : World) (hs : s.size ≤ 140737488351232)
    (c0 : w.cell? ⟨g, 0, none⟩ = some (.string s)) (c1 : w.cell? ⟨g, 1, none⟩ = some (.int .i64 i)) (f1 : w.frozen? ⟨g, 1, none⟩ = false)
    (hd : s.data.toList.drop i = 91 :: (wrt its ++ ([33, 61] ++ (34 :: (body ++ (34 :: 93 :: rest)))))) (hok : okItems its) (hne : its ≠ []) (hst2 : starts its) (hcap : noCap (dec its)) (hlen : (dec its).length ≤ 1000) (hb : ∀ c ∈ body, strB 34 c) :
    Calls Tryz.prog 42 #[.pointer (some ⟨g, 0, none⟩)] w fun e w' => AttrEnd (dec its) body [33, 61] false g (i + 1 + (wrt its).length + 2 + (body.length + 2) + 1) w e w' := by
  have hst : stops ([33, 61] ++ (34 :: (body ++ (34 :: 93 :: rest)))) := by intro c h; simp at h; subst h; decide
  have hd1 := drop_next hd
  have hd2 := drop_add hd1
  have hi : i < s.size := drop_lt hd
  have hc : s[i] = 91 := drop_get hd hi
  have hlt : (i : Int) < (s.size : Int) := by omega
  obtain ⟨j, hjd⟩ : ∃ j, j = i + 1 + (wrt its).length := ⟨_, rfl⟩
  rw [← hjd] at hd2 ⊢
  have hd3 : s.data.toList.drop (j + 2) = 34 :: (body ++ (34 :: 93 :: rest)) := drop_add (a := [33, 61]) hd2
  have hd4 := drop_add (drop_next hd3)
  have hd5 := drop_next hd4
  have hj : j < s.size := drop_lt (c := 33) (l := 61 :: 34 :: (body ++ (34 :: 93 :: rest))) hd2
  have hcj : s[j] = 33 := drop_get (c := 33) (l := 61 :: 34 :: (body ++ (34 :: 93 :: rest))) hd2 hj
  obtain ⟨q, hqd⟩ : ∃ q, q = j + 2 := ⟨_, rfl⟩
  rw [← hqd] at hd3
  have hjn : q < s.size := drop_lt hd3
  have hcn : s[q] = 34 := drop_get hd3 hjn
  have hltq : (q : Int) < (s.size : Int) := by omega
  have HQ := Lib.hid (show (j : Int) + 2 = (q : Int) by omega)
  obtain ⟨k, hkd⟩ : ∃ k, k = j + 2 + (body.length + 2) := ⟨_, rfl⟩
  rw [← hkd]
  rw [show j + 2 + 1 + body.length + 1 = k by omega] at hd5

  have hk1 : k < s.size := drop_lt hd5
  have hck : s[k] = 93 := drop_get hd5 hk1
  have hltk : (k : Int) < (s.size : Int) := by omega
  have S4 := Lib.hid (fun W d0 d1 fz => skip_any g s k 0 _ W hs (by omega) d0 d1 fz hd5 (noWs_of (by decide)))

  have hx : s.extract j (j + 2) = ⟨#[33, 61]⟩ := eq_of_data (extract_of_drop (a := [33, 61]) hd2)
  have S1 := Lib.hid (fun W d0 d1 fz => skip_any g s (i + 1) 0 _ W hs (by omega) d0 d1 fz hd1 (noWs_name hst2 hne))
  have HC := Lib.hid (fun W d0 d1 fz => parseIdentifier_any g s (i + 1) its _ W hs d0 d1 fz hd1 hok hst hne hst2)
  have S2 := Lib.hid (fun W d0 d1 fz => skip_any g s j 0 _ W hs (by omega) d0 d1 fz hd2 (noWs_of (by decide)))
  have S3 := Lib.hid (fun W d0 d1 fz => skip_any g s q 0 _ W hs (by omega) d0 d1 fz hd3 (noWs_of (by decide)))
  have HS := Lib.hid (fun W d0 d1 fz => parseString_any g s q 34 body _ W hs d0 d1 fz hd3 hb ⟨by decide, by decide, by decide, by decide, by decide⟩)
  have F := Lib.hid (fun (w' : World) (j : Nat) (h : Pos w w' g j) => h.facts c0 c1 f1)
  have hg : g < w.heap.size := cell_lt c0
  have hp := (Pos.start c1).below hg ((Below.refl w.heap.size w).alloc (Nat.le_refl _) (.cells #[.string ByteArray.empty, .string ByteArray.empty, .string ByteArray.empty, .bool false] 108))
  obtain ⟨d0, d1, df⟩ := F.out _ _ hp
  have HCap := Lib.hid hcap
  have HJ := Lib.hid hjd
  have HK := Lib.hid (show q + body.length + 2 = k by omega)
  have hlj : (j : Int) + 2 < (s.size : Int) := by omega
  clear hd hd1 hd2 hd3 hd4 hd5 hok hst hne hst2 hcap hjd hkd hqd hb
  go_enter Tryz.func42, Tryz.ntmps42
  go_wp2_with fail
  go_quiet (fail)
  go_wp2_with fail
  go_quiet (fail)
  go_wp2_with fail
  refine (S1.out _ ?_ ?_ ?_).mono ?_
  · exact (F.out _ _ ((hp.drewN _).set (i + 1))).1
  · exact (F.out _ _ ((hp.drewN _).set (i + 1))).2.1
  · exact (F.out _ _ ((hp.drewN _).set (i + 1))).2.2
  rintro e w1 ⟨rfl, m1⟩
  rw [Nat.add_zero] at m1
  have hN := Moved.new m1 hg
  have p1 := ((hp.drewN _).set (i + 1)).trans m1.toPos
  clear m1 d0 d1 df
  obtain ⟨d0, d1, df⟩ := F.out _ _ p1
  go_wp2_with fail
  refine (HC.out _ d0 d1 df).mono ?_
  rintro e w2 ⟨rk, rfl, hrk, m2⟩
  have hN2 := (m2.heap (by omega)).trans hN
  have p2 := p1.trans m2.toPos
  rw [← HJ.out] at p2
  have hks : rk.size ≤ 1000 := by rw [size_of_data hrk]; exact hlen
  have HRK := Lib.hid hrk
  clear m2 hN d0 d1 df hrk
  obtain ⟨d0, d1, df⟩ := F.out _ _ p2
  go_wp2_with fail
  refine (toLower_any rk _ (by omega) (by rw [HRK.out]; exact HCap.out)).mono ?_
  rintro e w3 ⟨rfl, rfl⟩
  go_wp2_with fail
  refine (S2.out _ d0 d1 df).mono ?_
  rintro e w4 ⟨rfl, m4⟩
  rw [Nat.add_zero] at m4
  have hN4 := (m4.heap (by omega)).trans hN2
  have p4 := p2.trans m4.toPos
  clear m4 hN2 d0 d1 df
  obtain ⟨d0, d1, df⟩ := F.out _ _ p4
  go_wp2_with fail
  go_quiet (fail)
  go_wp2_with fail
  go_quiet (fail)
  go_wp2_with fail
  go_quiet (fail)
  go_wp2_with fail
  go_quiet (fail)
  go_wp2_with fail
  rw [hx]
  simp only [HQ.out]
  refine (S3.out _ ?_ ?_ ?_).mono ?_
  · exact (F.out _ _ ((p4.drewN _).set q)).1
  · exact (F.out _ _ ((p4.drewN _).set q)).2.1
  · exact (F.out _ _ ((p4.drewN _).set q)).2.2
  rintro e w5 ⟨rfl, m5⟩
  rw [Nat.add_zero] at m5
  have hN5 := (m5.heap (k := w.heap.size) (by omega)).trans ((Below.heap_setCell _ ⟨g, 1, none⟩ _ _ (by show w.heap.size ≠ g; omega)).trans hN4)
  have p5 := ((p4.drewN _).set q).trans m5.toPos
  clear m5 hN4 d0 d1 df
  obtain ⟨d0, d1, df⟩ := F.out _ _ p5
  go_wp2_with fail
  go_quiet (fail)
  go_wp2_with fail
  go_quiet (fail)
  go_wp2_with fail
  refine (HS.out _ ?_ ?_ ?_).mono ?_
  · exact (F.out _ _ (p5.drewN _)).1
  · exact (F.out _ _ (p5.drewN _)).2.1
  · exact (F.out _ _ (p5.drewN _)).2.2
  rintro e w6 ⟨rv, rfl, hrv, m6⟩
  rw [HK.out] at m6
  have hN6 := (m6.heap (k := w.heap.size) (by omega)).trans hN5
  have p6 := (p5.drewN _).trans m6.toPos
  have HRV := Lib.hid hrv
  clear m6 hN5 d0 d1 df hrv
  obtain ⟨d0, d1, df⟩ := F.out _ _ p6
  go_wp2_with fail
  refine (S4.out _ d0 d1 df).mono ?_
  rintro e w7 ⟨rfl, m7⟩
  rw [Nat.add_zero] at m7
  have hN7 := (m7.heap (k := w.heap.size) (by omega)).trans hN6
  have p7 := p6.trans m7.toPos
  clear m7 hN6 d0 d1 df
  obtain ⟨d0, d1, df⟩ := F.out _ _ p7
  go_wp2_with fail
  go_quiet (fail)
  go_wp2_with fail
  go_quiet (fail)

  go_wp2_with fail
  refine (S4.out _ ?_ ?_ ?_).mono ?_
  · exact (F.out _ _ (p7.drewN _)).1
  · exact (F.out _ _ (p7.drewN _)).2.1
  · exact (F.out _ _ (p7.drewN _)).2.2
  rintro e w8 ⟨rfl, m8⟩
  rw [Nat.add_zero] at m8
  have hN8 := (m8.heap (k := w.heap.size) (by omega)).trans hN7
  have p8 := (p7.drewN _).trans m8.toPos
  clear m8 hN7 d0 d1 df
  obtain ⟨d0, d1, df⟩ := F.out _ _ p8
  have z0 : w8.cell? ⟨w.heap.size, 0, none⟩ = some (.string ByteArray.empty) := by rw [cell_of_row _ _ _ _ _ _ hN8]; rfl
  have z1 : w8.cell? ⟨w.heap.size, 1, none⟩ = some (.string ByteArray.empty) := by rw [cell_of_row _ _ _ _ _ _ hN8]; rfl
  have z2 : w8.cell? ⟨w.heap.size, 2, none⟩ = some (.string ByteArray.empty) := by rw [cell_of_row _ _ _ _ _ _ hN8]; rfl
  have z3 : w8.cell? ⟨w.heap.size, 3, none⟩ = some (.bool false) := by rw [cell_of_row _ _ _ _ _ _ hN8]; rfl
  have f0 := new_frozen hN8 0
  have f10 := new_frozen hN8 1
  have f2 := new_frozen hN8 2
  have f3 := new_frozen hN8 3
  go_wp2_with fail
  go_quiet (fail)
  go_wp2_with fail
  go_quiet (fail)
  go_wp2_with fail
  have hN9 : ∀ n : Nat, ((w8.drewN n).setCell ⟨g, 1, none⟩ (.int .i64 ((k : Int) + 1))).heap[w.heap.size]? = some (.cells #[.string ByteArray.empty, .string ByteArray.empty, .string ByteArray.empty, .bool false] 108 (0, 0)) :=
    fun n => (Below.heap_setCell _ ⟨g, 1, none⟩ _ _ (by show w.heap.size ≠ g; omega)).trans hN8
  have hN10 := fun n => set4 (b0 := .string rk) (b1 := .string rv) (b2 := .string ⟨#[33, 61]⟩) (b3 := .bool false) (hN9 n)
  have e0 := fun n => (cell_of_row _ _ 0 _ _ _ (hN10 n)).trans rfl
  have e1 := fun n => (cell_of_row _ _ 1 _ _ _ (hN10 n)).trans rfl
  have e2 := fun n => (cell_of_row _ _ 2 _ _ _ (hN10 n)).trans rfl
  have e3 := fun n => (cell_of_row _ _ 3 _ _ _ (hN10 n)).trans rfl
  refine bodyPost_ret (v := .tuple #[.agg #[.string rk, .string rv, .string ⟨#[33, 61]⟩, .bool false], .nilIface]) ?_ rfl ?_
  · simp [results, Tryz.results42, go_sem, e0, e1, e2, e3]
  · refine ⟨rk, rv, _, rfl, HRK.out, HRV.out, rfl, ?_⟩
    skip
    exact (((((p8.drewN _).set (k + 1)).own_ hg (Nat.le_refl _) _).own_ hg (Nat.le_refl _) _).own_ hg (Nat.le_refl _) _).own_ hg (Nat.le_refl _) _

end Go.Proofs.YtoindammaphefaaGreatDoor
