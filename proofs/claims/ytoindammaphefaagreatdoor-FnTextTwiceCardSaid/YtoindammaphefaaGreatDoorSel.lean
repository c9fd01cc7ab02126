/- The walk of parseSelector: compounds joined by a blank, >, + or ~. Conditions: they are as Group lets them through. -/
import Derived.Test.YtoindammaphefaaGreatDoorSel0
namespace Go.Proofs.YtoindammaphefaaGreatDoor
open Go.RowKit

set_option maxHeartbeats 8000000 in
set_option maxRecDepth 100000 in
theorem sel_any (m : Bool) (d : Nat) (hC : SeqC m d) (g : Nat) (s : ByteArray) (dep : Int) (i n : Nat) (c : Cpx) (rest : List UInt8) (w : World) (hs : s.size ≤ 140737488351232) (hP : Prs g s dep i w)
    (h0 : 0 ≤ dep) (h1 : dep + d ≤ 1000) (hc : cpxOK (grpOK d) c) (hd : s.data.toList.drop i = List.replicate n 32 ++ (cpxT m (grpT m d) c ++ rest)) (hr : endsCpx rest) :
    Calls Tryz.prog 29 #[.pointer (some ⟨g, 0, none⟩)] w (SelEnd (fun w' v => CpxV (CmpV (GrpV w' (New w w') d) w' (New w w')) v c) g (i + n + (cpxT m (grpT m d) c).length) w) := by
  obtain ⟨hc1, hc2, hc3⟩ := hc
  obtain ⟨p0, cs, rfl⟩ : ∃ p0 cs, c = p0 :: cs := by
    cases c with
    | nil => simp at hc1
    | cons p cs => exact ⟨p, cs, rfl⟩
  have hp0 := (hc3 0 p0 rfl).1
  have hjs : ∀ p ∈ cs, joinOK p.1 ∧ partsOK (grpOK d) p.2 := fun p hp => by
    obtain ⟨k, hk⟩ := List.mem_iff_getElem?.1 hp
    have := hc3 (k + 1) p (by rw [List.getElem?_cons_succ]; exact hk)
    exact ⟨this.2 (by omega), this.1⟩
  have hdq : s.data.toList.drop (i + n) = partsT m (grpT m d) p0.2 ++ (cs.flatMap (cmpT m (grpT m d)) ++ rest) := by
    have h := drop_add (k := i) (a := List.replicate n 32) (l := cpxT m (grpT m d) (p0 :: cs) ++ rest) hd
    rw [List.length_replicate] at h
    rw [h, cpxT, List.append_assoc]
  have hle : i ≤ s.size := by
    obtain ⟨a, r, e, _⟩ := partsT_hasLead (m := m) (G := grpT m d) hp0
    have := drop_lt (c := a) (by rw [hdq, e]; rfl)
    omega
  obtain ⟨q0, hq0⟩ : ∃ q0, q0 = i + n := ⟨_, rfl⟩
  have hle0 : q0 ≤ s.size := by
    obtain ⟨a, r, e, _⟩ := partsT_hasLead (m := m) (G := grpT m d) hp0
    have := drop_lt (c := a) (by rw [hdq, e]; rfl)
    omega
  have S1 := Lib.hid (fun W d0 d1 fz => skip_any g s i n (cpxT m (grpT m d) (p0 :: cs) ++ rest) W hs hle d0 d1 fz hd (cpxT_hasLead (m := m) (G := grpT m d) (c := p0 :: cs) ⟨hc1, hc2, hc3⟩).noWs)
  have SEQ := Lib.hid (fun W (h : Prs g s dep (i + n) W) => hC g s dep (i + n) p0.2 _ W hs h h0 h1 hp0 hdq (cmp_tail (fun p hp => (hjs p hp).1) hr))
  have hE : i + n + (cpxT m (grpT m d) (p0 :: cs)).length = q0 + (partsT m (grpT m d) p0.2).length + (cs.flatMap (cmpT m (grpT m d))).length := by rw [cpxT, List.length_append, hq0]; omega
  have hdr : s.data.toList.drop (q0 + (partsT m (grpT m d) p0.2).length) = cs.flatMap (cmpT m (grpT m d)) ++ rest := by rw [hq0]; exact drop_add hdq
  have hq3 : q0 + (partsT m (grpT m d) p0.2).length ≤ s.size := by
    obtain ⟨a, r, e, _⟩ := partsT_hasLead (m := m) (G := grpT m d) hp0
    rw [hq0]
    exact drop_le hdq (by rw [e]; simp)
  rw [← hq0] at S1 SEQ
  have hl3 : cs.length ≤ 3 := by simpa using hc2
  have HC := Lib.hid hC
  have HJ := Lib.hid hjs
  have HR := Lib.hid hr
  have HE := Lib.hid (⟨hE, hdr, hq3⟩ : _ ∧ _ ∧ _)
  have HP0 := Lib.hid hp0
  have hg := hP.lt
  have HP := Lib.hid hP
  obtain ⟨c0, c1, c2, fz⟩ := hP
  have f1 := fz 1
  have hp := Pos.start c1
  clear hd hdq hC hjs hr hc1 hc2 hc3 hp0 hE hdr hq3 fz hq0 hle
  go_enter Tryz.func29, Tryz.ntmps29
  go_wp2_with fail
  refine (S1.out _ c0 c1 f1).mono ?_
  rintro e w1 ⟨rfl, m1⟩
  have hp1 := hp.trans m1.toPos
  clear m1 hp
  go_wp2_with fail
  refine (SEQ.out _ (HP.out.pos hp1)).mono ?_
  rintro e w2 ⟨v, rfl, hv, hp2⟩
  have hv2 := cmpV_back hv hp1.size
  have hp3 := hp1.trans hp2
  obtain ⟨T0, x0, rfl⟩ := hv2.iface HP0.out
  have HV := Lib.hid (CpxV.one (p := p0) hv2)
  clear hv hv2 hp1 hp2 c0 c1 c2 f1
  go_wp2_with fail
  go_loopw [4] (fun v4 wr' => ∃ (k q : Nat) (T : TypeId) (x : Value), v4 = .iface T x ∧ k ≤ cs.length ∧ q ≤ s.size ∧ Pos w wr' g q ∧ Hid (CpxV (CmpV (GrpV wr' (New w wr') d) wr' (New w wr')) (.iface T x) (p0 :: cs.take k)) ∧
      Hid (s.data.toList.drop q = (cs.drop k).flatMap (cmpT m (grpT m d)) ++ rest ∧ i + n + (cpxT m (grpT m d) (p0 :: cs)).length = q + ((cs.drop k).flatMap (cmpT m (grpT m d))).length))
    (fun _ wr' => s.size - posIn g wr')
  case atStart =>
    refine ⟨0, q0 + (partsT m (grpT m d) p0.2).length, T0, x0, rfl, Nat.zero_le _, ?_, hp3, HV.out, HE.out.2.1, HE.out.1⟩
    exact HE.out.2.2
  case round =>
    obtain ⟨k, q, T, x, rfl, hk, hqs, hpq, HX, HQ⟩ := hrel
    have hPq := HP.out.pos hpq
    have d0 := hPq.c0
    have d1 := hPq.c1
    have df := hPq.fz 1
    clear hp3 HV
    rcases hy : cs[k]? with _ | y
    · have hnl : k = cs.length := by rw [List.getElem?_eq_none_iff] at hy; omega
      have hdr : s.data.toList.drop q = rest := by have := HQ.out.1; rw [hnl, List.drop_length] at this; simpa using this
      have hEE : i + n + (cpxT m (grpT m d) (p0 :: cs)).length = q := by have := HQ.out.2; rw [hnl, List.drop_length] at this; simpa using this
      have hcv := HX.out
      rw [hnl, List.take_length] at hcv
      have hend : ∀ w', Pos wr w' g q → SelEnd (fun w' v => CpxV (CmpV (GrpV w' (New w w') d) w' (New w w')) v (p0 :: cs)) g (i + n + (cpxT m (grpT m d) (p0 :: cs)).length) w (.returned (.tuple #[.iface T x, .nilIface])) w' := fun w' hp' => by
        rw [hEE]
        exact ⟨_, rfl, cpxV_turn hcv hp'.size (Alike.pos hp' hg), hpq.trans hp'⟩
      have HND := Lib.hid hend
      have S2 := Lib.hid (fun W e0 e1 ef => skip_any g s q 0 rest W hs hqs e0 e1 ef (by rw [hdr]; rfl) HR.out.noWs)
      have HDR := Lib.hid hdr
      clear hend hdr hEE hcv hnl hy
      go_wp2_with fail
      refine (S2.out _ d0 d1 df).mono ?_
      rintro e w4 ⟨rfl, m4⟩
      rw [Nat.add_zero] at m4
      have hp4 := m4.toPos
      have hP4 := hPq.pos hp4
      clear d0 d1 df m4
      have d0 := hP4.c0
      have d1 := hP4.c1
      rcases rest with _ | ⟨c', rest'⟩
      · have hq : ¬ (q : Int) < (s.size : Int) := by have := drop_nil HDR.out; omega
        go_wp2_with fail
        go_quiet (fail)
        go_wp2_with fail
        go_ret2
        exact HND.out _ (hp4.drewN _)
      · have hqz : q < s.size := drop_lt HDR.out
        have hq : (q : Int) < (s.size : Int) := by omega
        have hcq : s[q] = c' := drop_get HDR.out hqz
        rcases HR.out c' rfl with rfl | rfl
        all_goals
          go_wp2_with fail
          go_quiet (fail)
          go_wp2_with fail
          go_quiet (fail)
          go_wp2_with fail
          go_ret2
          exact HND.out _ (hp4.drewN _)
    · have hnl : k < cs.length := (List.getElem?_eq_some_iff.1 hy).1
      have hym : y ∈ cs := List.mem_of_getElem? hy
      obtain ⟨hyj, hyp⟩ := HJ.out y hym
      have hdc := drop_cons hy
      have hes : endsSeq ((cs.drop (k + 1)).flatMap (cmpT m (grpT m d)) ++ rest) := cmp_tail (fun p hp => (HJ.out p (List.mem_of_mem_drop hp)).1) HR.out
      have hT : s.data.toList.drop q = joinT m y.1.data.toList ++ (partsT m (grpT m d) y.2 ++ ((cs.drop (k + 1)).flatMap (cmpT m (grpT m d)) ++ rest)) := by rw [HQ.out.1, hdc, List.flatMap_cons, cmpT]; simp
      obtain ⟨q1, hq1⟩ : ∃ q1, q1 = q + (joinT m y.1.data.toList).length := ⟨_, rfl⟩
      have hT1 : s.data.toList.drop q1 = partsT m (grpT m d) y.2 ++ ((cs.drop (k + 1)).flatMap (cmpT m (grpT m d)) ++ rest) := by rw [hq1]; exact drop_add hT
      obtain ⟨q2, hq2⟩ : ∃ q2, q2 = q1 + (partsT m (grpT m d) y.2).length := ⟨_, rfl⟩
      have hT2 : s.data.toList.drop q2 = (cs.drop (k + 1)).flatMap (cmpT m (grpT m d)) ++ rest := by rw [hq2]; exact drop_add hT1
      obtain ⟨a, r, hpa, hal⟩ := partsT_hasLead (m := m) (G := grpT m d) hyp
      have hq2s : q2 ≤ s.size := by rw [hq2]; exact drop_le hT1 (by rw [hpa]; simp)
      have hlt1 : q1 < s.size := drop_lt (c := a) (by rw [hT1, hpa]; rfl)
      have hEE : i + n + (cpxT m (grpT m d) (p0 :: cs)).length = q2 + ((cs.drop (k + 1)).flatMap (cmpT m (grpT m d))).length := by
        have := HQ.out.2
        rw [hdc, List.flatMap_cons, List.length_append, cmpT, List.length_append] at this
        omega
      have hadv : q < q2 := by
        have : 0 < (partsT m (grpT m d) y.2).length := by rw [hpa]; simp
        omega
      have SEQ2 := Lib.hid (fun W (h : Prs g s dep q1 W) => HC.out g s dep q1 y.2 _ W hs h h0 h1 hyp hT1 hes)
      rw [← hq2] at SEQ2
      have htk : cs.take (k + 1) = cs.take k ++ [y] := by rw [List.take_add_one, hy]; rfl
      have HTK := Lib.hid (⟨htk, hT2, hEE, hyp⟩ : _ ∧ _ ∧ _ ∧ _)
      have hmore : ∀ (w3 : World) (T1 : TypeId) (x1 : Value), Pos wr w3 g q2 → CmpV (GrpV w3 (New w w3) d) w3 (New w w3) (.iface T1 x1) y.2 → CpxV (CmpV (GrpV w3 (New w w3) d) w3 (New w w3)) (combV (.iface T x) (joinB y.1) (.iface T1 x1)) (p0 :: cs.take (k + 1)) := fun w3 T1 x1 hp' hv' => by
        rw [htk, ← List.cons_append]
        exact .more (cpxV_turn HX.out hp'.size (Alike.pos hp' hg)) hv'
      have HMO := Lib.hid hmore
      have hacs := hal
      rcases hyj with hj | hj | hj | hj
      · obtain ⟨nb, hnb, hnb0⟩ := joinT_blank (m := m)
        have hjt : joinT m y.1.data.toList = List.replicate nb 32 := by rw [hj]; exact hnb
        have hjb : joinB y.1 = 32 := by rw [hj]; rfl
        have hq1n : q + nb = q1 := by rw [hq1, hjt, List.length_replicate]
        have S2 := Lib.hid (fun W e0 e1 ef => skip_any g s q nb (partsT m (grpT m d) y.2 ++ ((cs.drop (k + 1)).flatMap (cmpT m (grpT m d)) ++ rest)) W hs hqs e0 e1 ef (by rw [hT, hjt]) (partsT_hasLead hyp).noWs)
        rw [hq1n, decide_eq_true hnb0] at S2
        have hca : s[q1] = a := drop_get (c := a) (by rw [hT1, hpa]; rfl) hlt1
        have hlt2 : (q1 : Int) < (s.size : Int) := by omega
        have b1 : ((a.toNat : Int) == 43) = false := u8_ne' (b := 43) (hal.ne _ (by simp))
        have b2 : ((a.toNat : Int) == 62) = false := u8_ne' (b := 62) (hal.ne _ (by simp))
        have b3 : ((a.toNat : Int) == 126) = false := u8_ne' (b := 126) (hal.ne _ (by simp))
        have b4 : ((a.toNat : Int) == 44) = false := u8_ne' (b := 44) (hal.ne _ (by simp))
        have b5 : ((a.toNat : Int) == 41) = false := u8_ne' (b := 41) (hal.ne _ (by simp))
        have HB := Lib.hid hjb
        clear hT hT1 hT2 hes htk hEE hmore hjt hjb hq1n hnb hnb0 hj hq1 hq2 hyp hym hdc hy hpa hal hacs
        go_wp2_with fail
        refine (S2.out _ d0 d1 df).mono ?_
        rintro e w4 ⟨rfl, m4⟩
        have hp4 := m4.toPos
        have hP4 := hPq.pos hp4
        clear d0 d1 df m4
        have d0 := hP4.c0
        have d1 := hP4.c1
        go_wp2_with fail
        go_quiet (fail)
        go_wp2_with fail
        go_quiet (fail)
        go_wp2_with fail
        refine (SEQ2.out _ (hPq.pos (hp4.drewN _))).mono ?_
        rintro e w5 ⟨v1, rfl, hv1, hp5⟩
        have hp6 := (hp4.drewN _).trans hp5
        have hv2 := cmpV_back hv1 (hpq.trans (hp4.drewN _)).size
        obtain ⟨T1, x1, rfl⟩ := hv2.iface HTK.out.2.2.2
        have HV1 := Lib.hid (HMO.out _ _ _ hp6 hv2)
        rw [HB.out] at HV1
        clear hv1 hv2 hp5
        go_wp2_with fail
        go_roundw
        case rel => exact ⟨k + 1, q2, _, _, rfl, by omega, by omega, hpq.trans hp6, HV1.out, HTK.out.2.1, HTK.out.2.2.1⟩
        case measure => rw [hPq.posIn, (hPq.pos hp6).posIn]; omega
      · have hjt : joinT m y.1.data.toList = [32, 62, 32] := by rw [hj]; cases m <;> rfl
        have hjb : joinB y.1 = 62 := by rw [hj]; rfl
        obtain ⟨qa, hqa⟩ : ∃ qa, qa = q + 1 := ⟨_, rfl⟩
        obtain ⟨qb, hqb⟩ : ∃ qb, qb = qa + 1 := ⟨_, rfl⟩
        have hq1n : qb + 1 = q1 := by rw [hq1, hjt, hqb, hqa]; rfl
        have hTa : s.data.toList.drop q = 32 :: 62 :: 32 :: (partsT m (grpT m d) y.2 ++ ((cs.drop (k + 1)).flatMap (cmpT m (grpT m d)) ++ rest)) := by rw [hT, hjt]; rfl
        have hTb : s.data.toList.drop qa = 62 :: 32 :: (partsT m (grpT m d) y.2 ++ ((cs.drop (k + 1)).flatMap (cmpT m (grpT m d)) ++ rest)) := by rw [hqa]; exact drop_next hTa
        have hTc : s.data.toList.drop qb = 32 :: (partsT m (grpT m d) y.2 ++ ((cs.drop (k + 1)).flatMap (cmpT m (grpT m d)) ++ rest)) := by rw [hqb]; exact drop_next hTb
        have S2 := Lib.hid (fun W e0 e1 ef => skip_any g s q 1 (62 :: 32 :: (partsT m (grpT m d) y.2 ++ ((cs.drop (k + 1)).flatMap (cmpT m (grpT m d)) ++ rest))) W hs hqs e0 e1 ef hTa (noWs_of' (by decide)))
        have S3 := Lib.hid (fun W e0 e1 ef => skip_any g s qb 1 (partsT m (grpT m d) y.2 ++ ((cs.drop (k + 1)).flatMap (cmpT m (grpT m d)) ++ rest)) W hs (by omega) e0 e1 ef hTc (partsT_hasLead hyp).noWs)
        rw [← hqa] at S2
        rw [hq1n] at S3
        have hqas : qa < s.size := drop_lt hTb
        have hca : s[qa] = 62 := drop_get hTb hqas
        have hlt2 : (qa : Int) < (s.size : Int) := by omega
        have HQB := Lib.hid (show (qa : Int) + 1 = (qb : Int) by omega)
        have HB := Lib.hid hjb
        clear hT hT1 hT2 hes htk hEE hmore hjt hjb hq1n hj hq1 hq2 hyp hym hdc hy hpa hal hacs hTa hTb hTc hqa hqb
        go_wp2_with fail
        refine (S2.out _ d0 d1 df).mono ?_
        rintro e w4 ⟨rfl, m4⟩
        have hp4 := m4.toPos
        have hP4 := hPq.pos hp4
        clear d0 d1 df m4
        have d0 := hP4.c0
        have d1 := hP4.c1
        have df := hP4.fz 1
        go_wp2_with fail
        go_quiet (fail)
        go_wp2_with fail
        go_quiet (fail)
        go_wp2_with fail
        go_quiet (fail)
        go_wp2_with fail
        simp only [HQB.out]
        refine (S3.out _ ?_ ?_ ?_).mono ?_
        · exact (hPq.pos ((hp4.drewN _).set qb)).c0
        · exact (hPq.pos ((hp4.drewN _).set qb)).c1
        · exact (hPq.pos ((hp4.drewN _).set qb)).fz 1
        rintro e w5 ⟨rfl, m5⟩
        have hp5 := ((hp4.drewN _).set qb).trans m5.toPos
        clear m5
        go_wp2_with fail
        refine (SEQ2.out _ (hPq.pos hp5)).mono ?_
        rintro e w6 ⟨v1, rfl, hv1, hp6⟩
        have hp7 := hp5.trans hp6
        have hv2 := cmpV_back hv1 (hpq.trans hp5).size
        obtain ⟨T1, x1, rfl⟩ := hv2.iface HTK.out.2.2.2
        have HV1 := Lib.hid (HMO.out _ _ _ hp7 hv2)
        rw [HB.out] at HV1
        clear hv1 hv2 hp6
        go_wp2_with fail
        go_roundw
        case rel => exact ⟨k + 1, q2, _, _, rfl, by omega, by omega, hpq.trans hp7, HV1.out, HTK.out.2.1, HTK.out.2.2.1⟩
        case measure => rw [hPq.posIn, (hPq.pos hp7).posIn]; omega
      · have hjt : joinT m y.1.data.toList = [32, 43, 32] := by rw [hj]; cases m <;> rfl
        have hjb : joinB y.1 = 43 := by rw [hj]; rfl
        obtain ⟨qa, hqa⟩ : ∃ qa, qa = q + 1 := ⟨_, rfl⟩
        obtain ⟨qb, hqb⟩ : ∃ qb, qb = qa + 1 := ⟨_, rfl⟩
        have hq1n : qb + 1 = q1 := by rw [hq1, hjt, hqb, hqa]; rfl
        have hTa : s.data.toList.drop q = 32 :: 43 :: 32 :: (partsT m (grpT m d) y.2 ++ ((cs.drop (k + 1)).flatMap (cmpT m (grpT m d)) ++ rest)) := by rw [hT, hjt]; rfl
        have hTb : s.data.toList.drop qa = 43 :: 32 :: (partsT m (grpT m d) y.2 ++ ((cs.drop (k + 1)).flatMap (cmpT m (grpT m d)) ++ rest)) := by rw [hqa]; exact drop_next hTa
        have hTc : s.data.toList.drop qb = 32 :: (partsT m (grpT m d) y.2 ++ ((cs.drop (k + 1)).flatMap (cmpT m (grpT m d)) ++ rest)) := by rw [hqb]; exact drop_next hTb
        have S2 := Lib.hid (fun W e0 e1 ef => skip_any g s q 1 (43 :: 32 :: (partsT m (grpT m d) y.2 ++ ((cs.drop (k + 1)).flatMap (cmpT m (grpT m d)) ++ rest))) W hs hqs e0 e1 ef hTa (noWs_of' (by decide)))
        have S3 := Lib.hid (fun W e0 e1 ef => skip_any g s qb 1 (partsT m (grpT m d) y.2 ++ ((cs.drop (k + 1)).flatMap (cmpT m (grpT m d)) ++ rest)) W hs (by omega) e0 e1 ef hTc (partsT_hasLead hyp).noWs)
        rw [← hqa] at S2
        rw [hq1n] at S3
        have hqas : qa < s.size := drop_lt hTb
        have hca : s[qa] = 43 := drop_get hTb hqas
        have hlt2 : (qa : Int) < (s.size : Int) := by omega
        have HQB := Lib.hid (show (qa : Int) + 1 = (qb : Int) by omega)
        have HB := Lib.hid hjb
        clear hT hT1 hT2 hes htk hEE hmore hjt hjb hq1n hj hq1 hq2 hyp hym hdc hy hpa hal hacs hTa hTb hTc hqa hqb
        go_wp2_with fail
        refine (S2.out _ d0 d1 df).mono ?_
        rintro e w4 ⟨rfl, m4⟩
        have hp4 := m4.toPos
        have hP4 := hPq.pos hp4
        clear d0 d1 df m4
        have d0 := hP4.c0
        have d1 := hP4.c1
        have df := hP4.fz 1
        go_wp2_with fail
        go_quiet (fail)
        go_wp2_with fail
        go_quiet (fail)
        go_wp2_with fail
        go_quiet (fail)
        go_wp2_with fail
        simp only [HQB.out]
        refine (S3.out _ ?_ ?_ ?_).mono ?_
        · exact (hPq.pos ((hp4.drewN _).set qb)).c0
        · exact (hPq.pos ((hp4.drewN _).set qb)).c1
        · exact (hPq.pos ((hp4.drewN _).set qb)).fz 1
        rintro e w5 ⟨rfl, m5⟩
        have hp5 := ((hp4.drewN _).set qb).trans m5.toPos
        clear m5
        go_wp2_with fail
        refine (SEQ2.out _ (hPq.pos hp5)).mono ?_
        rintro e w6 ⟨v1, rfl, hv1, hp6⟩
        have hp7 := hp5.trans hp6
        have hv2 := cmpV_back hv1 (hpq.trans hp5).size
        obtain ⟨T1, x1, rfl⟩ := hv2.iface HTK.out.2.2.2
        have HV1 := Lib.hid (HMO.out _ _ _ hp7 hv2)
        rw [HB.out] at HV1
        clear hv1 hv2 hp6
        go_wp2_with fail
        go_roundw
        case rel => exact ⟨k + 1, q2, _, _, rfl, by omega, by omega, hpq.trans hp7, HV1.out, HTK.out.2.1, HTK.out.2.2.1⟩
        case measure => rw [hPq.posIn, (hPq.pos hp7).posIn]; omega
      · have hjt : joinT m y.1.data.toList = [32, 126, 32] := by rw [hj]; cases m <;> rfl
        have hjb : joinB y.1 = 126 := by rw [hj]; rfl
        obtain ⟨qa, hqa⟩ : ∃ qa, qa = q + 1 := ⟨_, rfl⟩
        obtain ⟨qb, hqb⟩ : ∃ qb, qb = qa + 1 := ⟨_, rfl⟩
        have hq1n : qb + 1 = q1 := by rw [hq1, hjt, hqb, hqa]; rfl
        have hTa : s.data.toList.drop q = 32 :: 126 :: 32 :: (partsT m (grpT m d) y.2 ++ ((cs.drop (k + 1)).flatMap (cmpT m (grpT m d)) ++ rest)) := by rw [hT, hjt]; rfl
        have hTb : s.data.toList.drop qa = 126 :: 32 :: (partsT m (grpT m d) y.2 ++ ((cs.drop (k + 1)).flatMap (cmpT m (grpT m d)) ++ rest)) := by rw [hqa]; exact drop_next hTa
        have hTc : s.data.toList.drop qb = 32 :: (partsT m (grpT m d) y.2 ++ ((cs.drop (k + 1)).flatMap (cmpT m (grpT m d)) ++ rest)) := by rw [hqb]; exact drop_next hTb
        have S2 := Lib.hid (fun W e0 e1 ef => skip_any g s q 1 (126 :: 32 :: (partsT m (grpT m d) y.2 ++ ((cs.drop (k + 1)).flatMap (cmpT m (grpT m d)) ++ rest))) W hs hqs e0 e1 ef hTa (noWs_of' (by decide)))
        have S3 := Lib.hid (fun W e0 e1 ef => skip_any g s qb 1 (partsT m (grpT m d) y.2 ++ ((cs.drop (k + 1)).flatMap (cmpT m (grpT m d)) ++ rest)) W hs (by omega) e0 e1 ef hTc (partsT_hasLead hyp).noWs)
        rw [← hqa] at S2
        rw [hq1n] at S3
        have hqas : qa < s.size := drop_lt hTb
        have hca : s[qa] = 126 := drop_get hTb hqas
        have hlt2 : (qa : Int) < (s.size : Int) := by omega
        have HQB := Lib.hid (show (qa : Int) + 1 = (qb : Int) by omega)
        have HB := Lib.hid hjb
        clear hT hT1 hT2 hes htk hEE hmore hjt hjb hq1n hj hq1 hq2 hyp hym hdc hy hpa hal hacs hTa hTb hTc hqa hqb
        go_wp2_with fail
        refine (S2.out _ d0 d1 df).mono ?_
        rintro e w4 ⟨rfl, m4⟩
        have hp4 := m4.toPos
        have hP4 := hPq.pos hp4
        clear d0 d1 df m4
        have d0 := hP4.c0
        have d1 := hP4.c1
        have df := hP4.fz 1
        go_wp2_with fail
        go_quiet (fail)
        go_wp2_with fail
        go_quiet (fail)
        go_wp2_with fail
        go_quiet (fail)
        go_wp2_with fail
        simp only [HQB.out]
        refine (S3.out _ ?_ ?_ ?_).mono ?_
        · exact (hPq.pos ((hp4.drewN _).set qb)).c0
        · exact (hPq.pos ((hp4.drewN _).set qb)).c1
        · exact (hPq.pos ((hp4.drewN _).set qb)).fz 1
        rintro e w5 ⟨rfl, m5⟩
        have hp5 := ((hp4.drewN _).set qb).trans m5.toPos
        clear m5
        go_wp2_with fail
        refine (SEQ2.out _ (hPq.pos hp5)).mono ?_
        rintro e w6 ⟨v1, rfl, hv1, hp6⟩
        have hp7 := hp5.trans hp6
        have hv2 := cmpV_back hv1 (hpq.trans hp5).size
        obtain ⟨T1, x1, rfl⟩ := hv2.iface HTK.out.2.2.2
        have HV1 := Lib.hid (HMO.out _ _ _ hp7 hv2)
        rw [HB.out] at HV1
        clear hv1 hv2 hp6
        go_wp2_with fail
        go_roundw
        case rel => exact ⟨k + 1, q2, _, _, rfl, by omega, by omega, hpq.trans hp7, HV1.out, HTK.out.2.1, HTK.out.2.2.1⟩
        case measure => rw [hPq.posIn, (hPq.pos hp7).posIn]; omega
end Go.Proofs.YtoindammaphefaaGreatDoor
