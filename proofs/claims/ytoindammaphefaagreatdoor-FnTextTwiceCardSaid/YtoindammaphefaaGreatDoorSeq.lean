/- The walk of parseSimpleSelectorSequence: simple selectors of one element. Conditions: they are as Group lets them through. -/
import Derived.Test.YtoindammaphefaaGreatDoorSeq0
import Derived.Deep.CutBlock
namespace Go.Proofs.YtoindammaphefaaGreatDoor
open Go.RowKit


set_option maxHeartbeats 8000000 in
set_option maxRecDepth 100000 in
theorem seq_any (m : Bool) (d : Nat) (hC : GrpC m d) (g : Nat) (s : ByteArray) (dep : Int) (i : Nat) (l : List Sim) (rest : List UInt8) (w : World) (hs : s.size ≤ 140737488351232) (hP : Prs g s dep i w)
    (h0 : 0 ≤ dep) (h1 : dep + d ≤ 1000) (hl : partsOK (grpOK d) l) (hd : s.data.toList.drop i = partsT m (grpT m d) l ++ rest) (hr : endsSeq rest) :
    Calls Tryz.prog 34 #[.pointer (some ⟨g, 0, none⟩)] w (SelEnd (fun w' v => CmpV (GrpV w' (New w w') d) w' (New w w') v l) g (i + (partsT m (grpT m d) l).length) w) := by
  obtain ⟨x, k, hsh, hx, hks, hstar⟩ := shown_get (m := m) hl
  have hsel := sels_shown hl hsh hks
  have hd0 : s.data.toList.drop i = simT m (grpT m d) x ++ (k.flatMap (simT m (grpT m d)) ++ rest) := by rw [hd]; simp [partsT, hsh]
  obtain ⟨c, r, hxc, hcl⟩ := simT_hasLead (m := m) (G := grpT m d) hx
  have hd1 : s.data.toList.drop i = c :: (r ++ (k.flatMap (simT m (grpT m d)) ++ rest)) := by rw [hd0, hxc]; simp
  have hi : i < s.size := drop_lt hd1
  have hci : s[i] = c := drop_get hd1 hi
  have hlt : (i : Int) < (s.size : Int) := by omega
  have hlen : ((shown m l).flatMap (simT m (grpT m d))).length = (simT m (grpT m d) x).length + (k.flatMap (simT m (grpT m d))).length := by rw [hsh]; simp
  have HD := Lib.hid hd0
  have HC := Lib.hid hC
  have HK := Lib.hid hks
  have HS := Lib.hid hsel
  have HL := Lib.hid hlen
  have HX := Lib.hid hx
  have HR := Lib.hid hr
  have hlen4 : k.length ≤ 3 := by
    have h3 := shown_len m l
    rw [hsh] at h3
    have := hl.2.1
    simp at h3
    omega
  have hg := hP.lt
  have HP := Lib.hid hP
  obtain ⟨c0, c1, c2, fz⟩ := hP
  have f1 := fz 1
  have hp := Pos.start c1
  obtain ⟨i2, hi2, hz20, hz21, hz22⟩ := info_parts infoSel
  clear hd hd0 hd1 hC hx hks fz hr hl hsel hlen hsh
  have HXC := Lib.hid hxc
  clear hxc
  go_enter Tryz.func34, Tryz.ntmps34
  go_wp2_with fail
  go_step3
  go_wp2_with fail
  go_quiet (fail)
  go_upto_region 4 with fail
  rename_i K1 hK1 K0 hK0
  have CUT : ∀ (pre r0 : List Sim) (pos : Nat) (sv : Value) (wx : World), pre.length + r0.length ≤ 4 → Pos w wx g pos → Bld (fun w P v s => SimV (GrpV w P d) v s) 66 w wx sv pre →
      Hid (sels l = pre ++ r0 ∧ (∀ t ∈ r0, simOK (grpOK d) t ∧ 1 < t.kind) ∧ s.data.toList.drop pos = r0.flatMap (simT m (grpT m d)) ++ rest ∧ i + (partsT m (grpT m d) l).length = pos + (r0.flatMap (simT m (grpT m d))).length) →
      ∀ u5 u6 u7 u8 u9 u10 u11 u12 u13 u14 u15 u16 u17 u18 u19 u20 u21 u22 u23 u24 u25 u26 u27 u28 u29 u30 u31 u32 u33 u34 u35 u36 u37 u38 u39 u40 u41 u42 u43 u44 u45 u46 u47 u48 u49 u50 u51 u52 u53 u54 u55 u56 u57 u58 u59 u60 u61 u62 u63 u64 u65 u66 u67 u68 u69 u70 u71 u72 u73 u74 u75 u76 u77 u78 u79 u80 u81 u82 u83 u84 u85 u86 u87 u88 u89 u90 u91 u92 u93 u94 u95 u96 u97 u98 u99 u100 u101 u102 u103 u104 u105 u106 u107 u108 u109 u110 u111 u112 u113 u114 u115 u116 u117 u118 u119 u120 u121 u122 u123 u124 u125 u126 u127 u128 u129 u130 u131 u132 u133 u134 u135 u136 u137 u138 u139 u140 u141 u142 u143 u144 u145 u146 u147 u148 u149 u150 u151 u152 u153 u154 u155 u156 u157 u158 u159 u160 u161 u162 u163 u164 u165 u166 u167 u168 u169 u170 u171 u172 u173 u174 u175 u176 u177 u178 u179 : Value, K1 { tmps := #[.pointer (some ⟨g, 0, none⟩), undef, .nilIface, .nilIface, sv, u5, u6, u7, u8, u9, u10, u11, u12, u13, u14, u15, u16, u17, u18, u19, u20, u21, u22, u23, u24, u25, u26, u27, u28, u29, u30, u31, u32, u33, u34, u35, u36, u37, u38, u39, u40, u41, u42, u43, u44, u45, u46, u47, u48, u49, u50, u51, u52, u53, u54, u55, u56, u57, u58, u59, u60, u61, u62, u63, u64, u65, u66, u67, u68, u69, u70, u71, u72, u73, u74, u75, u76, u77, u78, u79, u80, u81, u82, u83, u84, u85, u86, u87, u88, u89, u90, u91, u92, u93, u94, u95, u96, u97, u98, u99, u100, u101, u102, u103, u104, u105, u106, u107, u108, u109, u110, u111, u112, u113, u114, u115, u116, u117, u118, u119, u120, u121, u122, u123, u124, u125, u126, u127, u128, u129, u130, u131, u132, u133, u134, u135, u136, u137, u138, u139, u140, u141, u142, u143, u144, u145, u146, u147, u148, u149, u150, u151, u152, u153, u154, u155, u156, u157, u158, u159, u160, u161, u162, u163, u164, u165, u166, u167, u168, u169, u170, u171, u172, u173, u174, u175, u176, u177, u178, u179], defers := [] } wx := by
    intro pre r0 pos sv wx hpl hpx hB H u5 u6 u7 u8 u9 u10 u11 u12 u13 u14 u15 u16 u17 u18 u19 u20 u21 u22 u23 u24 u25 u26 u27 u28 u29 u30 u31 u32 u33 u34 u35 u36 u37 u38 u39 u40 u41 u42 u43 u44 u45 u46 u47 u48 u49 u50 u51 u52 u53 u54 u55 u56 u57 u58 u59 u60 u61 u62 u63 u64 u65 u66 u67 u68 u69 u70 u71 u72 u73 u74 u75 u76 u77 u78 u79 u80 u81 u82 u83 u84 u85 u86 u87 u88 u89 u90 u91 u92 u93 u94 u95 u96 u97 u98 u99 u100 u101 u102 u103 u104 u105 u106 u107 u108 u109 u110 u111 u112 u113 u114 u115 u116 u117 u118 u119 u120 u121 u122 u123 u124 u125 u126 u127 u128 u129 u130 u131 u132 u133 u134 u135 u136 u137 u138 u139 u140 u141 u142 u143 u144 u145 u146 u147 u148 u149 u150 u151 u152 u153 u154 u155 u156 u157 u158 u159 u160 u161 u162 u163 u164 u165 u166 u167 u168 u169 u170 u171 u172 u173 u174 u175 u176 u177 u178 u179
    apply hK1
    clear hK1 hK0 K0
    go_wp2_with fail
    go_step3
    go_wp2_with fail
    obtain ⟨A0, cp0, rfl⟩ := hB.slice
    go_loopw [4, 7] (fun v4 v7 wr' => ∃ (n q N : Nat) (A : Option Addr) (cp : Nat), v4 = .slice A N cp ∧ v7 = .string ⟨#[]⟩ ∧ n ≤ r0.length ∧ Pos w wr' g q ∧ Bld (fun w P v s => SimV (GrpV w P d) v s) 66 w wr' (.slice A N cp) (pre ++ r0.take n) ∧
        Hid (N = pre.length + n ∧ s.data.toList.drop q = (r0.drop n).flatMap (simT m (grpT m d)) ++ rest ∧ i + (partsT m (grpT m d) l).length = q + ((r0.drop n).flatMap (simT m (grpT m d))).length))
      (fun v4 _ _ => pre.length + r0.length - lenOf v4)
    case atStart => exact ⟨0, pos, pre.length, A0, cp0, rfl, rfl, Nat.zero_le _, hpx, by simpa using hB, rfl, H.out.2.2.1, H.out.2.2.2⟩
    case round =>
      obtain ⟨n, q, N, A, cp, rfl, rfl, hn, hpq, hBq, HQ⟩ := hrel
      have hPq := HP.out.pos hpq
      have d0 := hPq.c0
      have d1 := hPq.c1
      have df := hPq.fz 1
      clear c0 c1 c2 f1 hp hpx hB
      rcases hy : r0[n]? with _ | y
      · have hnl : n = r0.length := by rw [List.getElem?_eq_none_iff] at hy; omega
        have hse : pre ++ r0.take n = sels l := by rw [H.out.1, hnl, List.take_length]
        have hdr : s.data.toList.drop q = rest := by have := HQ.out.2.1; rw [hnl, List.drop_length] at this; simpa using this
        have hE : i + (partsT m (grpT m d) l).length = q := by have := HQ.out.2.2; rw [hnl, List.drop_length] at this; simpa using this
        have hN : (sels l).length = N := by rw [← hse, List.length_append, List.length_take, HQ.out.1]; omega
        rw [hse] at hBq
        have hrow := hBq.row (turns_sim d)
        have hend : ∀ w' k v, w' = wr.drewN k → CmpV (GrpV wr (New w wr) d) wr (New w wr) v l → SelEnd (fun w' v => CmpV (GrpV w' (New w w') d) w' (New w w') v l) g (i + (partsT m (grpT m d) l).length) w (.returned (.tuple #[v, .nilIface])) w' := by
          rintro w' k v rfl hv
          rw [hE]
          exact ⟨v, rfl, hv.turn (fun _ h => h) (fun _ _ => rfl) (fun _ _ h => h.turn (fun _ h => h) fun _ _ => rfl), hpq.drewN k⟩
        have HE := Lib.hid hend
        have hone : N = 1 → ∃ a v, A = some a ∧ wr.cell? a = some v ∧ CmpV (GrpV wr (New w wr) d) wr (New w wr) v l := by
          intro h1
          obtain ⟨z, hz⟩ : ∃ z, sels l = [z] := List.length_eq_one_iff.1 (hN.trans h1)
          rw [hz] at hrow
          obtain ⟨a, c', hv, _, v, hv0, hvs⟩ := row_get hrow (k := 0) rfl
          injection hv with hA _ _
          exact ⟨a, v, hA, cell_head hv0, cmpV_one hz hvs⟩
        have hmany : N ≠ 1 → CmpV (GrpV wr (New w wr) d) wr (New w wr) (compV (.slice A N cp)) l := fun h1 => .inr ⟨by rw [hN]; exact h1, _, rfl, hrow⟩
        have HO := Lib.hid hone
        have HM := Lib.hid hmany
        have HDR := Lib.hid hdr
        clear hend hone hmany hrow hBq hN hE hdr hse hy hnl
        by_cases hN1 : N = 1
        · subst hN1
          obtain ⟨a, v, rfl, hav, hcv⟩ := HO.out rfl
          have HV := Lib.hid hcv
          clear hcv
          rcases rest with _ | ⟨c', rest'⟩
          · have hq : ¬ (q : Int) < (s.size : Int) := by have := drop_nil HDR.out; omega
            go_wp2_with fail
            go_quiet (fail)
            go_wp2_with fail
            rw [Exit.noGoto_ret]
            go_ret2
            exact HE.out _ _ _ rfl HV.out
          · have hqs : q < s.size := drop_lt HDR.out
            have hq : (q : Int) < (s.size : Int) := by omega
            have hcq : s[q] = c' := drop_get HDR.out hqs
            rcases HR.out c' rfl with rfl | rfl | rfl
            all_goals
              go_wp2_with fail
              go_quiet (fail)
              go_wp2_with fail
              go_quiet (fail)
              go_wp2_with fail
              rw [Exit.noGoto_ret]
              go_ret2
              exact HE.out _ _ _ rfl HV.out
        · have HV := Lib.hid (HM.out hN1)
          have hN2 : ((N : Int) == 1) = false := by simp; omega
          clear hN1
          rcases rest with _ | ⟨c', rest'⟩
          · have hq : ¬ (q : Int) < (s.size : Int) := by have := drop_nil HDR.out; omega
            go_wp2_with fail
            go_quiet (fail)
            go_wp2_with fail
            rw [Exit.noGoto_ret]
            go_ret2
            exact HE.out _ _ _ rfl HV.out
          · have hqs : q < s.size := drop_lt HDR.out
            have hq : (q : Int) < (s.size : Int) := by omega
            have hcq : s[q] = c' := drop_get HDR.out hqs
            rcases HR.out c' rfl with rfl | rfl | rfl
            all_goals
              go_wp2_with fail
              go_quiet (fail)
              go_wp2_with fail
              go_quiet (fail)
              go_wp2_with fail
              rw [Exit.noGoto_ret]
              go_ret2
              exact HE.out _ _ _ rfl HV.out
      · have hnl : n < r0.length := (List.getElem?_eq_some_iff.1 hy).1
        have hym : y ∈ r0 := List.mem_of_getElem? hy
        obtain ⟨hyo, hyk⟩ := H.out.2.1 y hym
        have hdc := drop_cons hy
        have hT : s.data.toList.drop q = simT m (grpT m d) y ++ ((r0.drop (n + 1)).flatMap (simT m (grpT m d)) ++ rest) := by rw [HQ.out.2.1, hdc, List.flatMap_cons, List.append_assoc]
        have hES : endsSim ((r0.drop (n + 1)).flatMap (simT m (grpT m d)) ++ rest) := tail_ends (fun t ht => H.out.2.1 t (List.mem_of_mem_drop ht)) HR.out
        obtain ⟨q2, hq2⟩ : ∃ q2, q2 = q + (simT m (grpT m d) y).length := ⟨_, rfl⟩
        have hT2 : s.data.toList.drop q2 = (r0.drop (n + 1)).flatMap (simT m (grpT m d)) ++ rest := by rw [hq2]; exact drop_add hT
        have hE2 : i + (partsT m (grpT m d) l).length = q2 + ((r0.drop (n + 1)).flatMap (simT m (grpT m d))).length := by
          have := HQ.out.2.2
          rw [hdc, List.flatMap_cons, List.length_append] at this
          omega
        have hlN : (pre ++ r0.take n).length = N := by rw [List.length_append, List.length_take, HQ.out.1]; omega
        have htk : pre ++ r0.take n ++ [y] = pre ++ r0.take (n + 1) := by rw [List.take_add_one, hy, List.append_assoc]; rfl
        have hN4 : N < 4 := by rw [HQ.out.1]; omega
        have hNn : N + 1 = pre.length + (n + 1) := by rw [HQ.out.1]; omega
        have HTL := Lib.hid (⟨hT2, hE2, hNn, htk, hlN⟩ : _ ∧ _ ∧ _ ∧ _ ∧ _)
        have hmeas : pre.length + r0.length - (N + 1) < pre.length + r0.length - N := by rw [HQ.out.1]; omega
        have HMS := Lib.hid hmeas
        rcases simT_lead (m := m) (G := grpT m d) hyo with ⟨hk0, _⟩ | ⟨hk0, _⟩ | ⟨hk, hnm, he⟩ | ⟨hk, hnm, he⟩ | ⟨hk, hnm, r1, he⟩ | ⟨hk, hk', r1, he⟩
        · omega
        · omega
        · have hqs : q < s.size := drop_lt (c := 35) (by rw [hT, he]; rfl)
          have hq : (q : Int) < (s.size : Int) := by omega
          have hcq : s[q] = 35 := drop_get (c := 35) (by rw [hT, he]; rfl) hqs
          have CALL := Lib.hid (fun W (h : Prs g s dep q W) => id_sim m g s q y _ W hs h.c0 h.c1 (h.fz 1) _ hk hnm he hT hES)
          rw [← hq2] at CALL
          clear hT hES hT2 hE2 hlN htk hNn hmeas hym hyo hyk hdc hk hnm he hy hq2
          go_wp2_with fail
          go_quiet (fail)
          go_wp2_with fail
          go_quiet (fail)
          go_wp2_with fail
          refine (CALL.out _ (HP.out.pos (hpq.drewN _))).mono ?_
          rintro e w2 ⟨z, rfl, hz, hp2⟩
          have hB2 := (hBq.drewN (turns_sim d) _).pos (turns_sim d) hp2 hg
          have hval : (fun w P v s => SimV (GrpV w P d) v s) w2 (fun b => New w w2 b ∧ (Value.slice A N cp).ownBlock ≠ some b) (.iface 100 (.agg z)) y := hz _
          have hp3 := (hpq.drewN _).trans hp2
          have hB3 := hB2.alloc (turns_sim d) (.cells #[(.iface 100 (.agg z))] 66)
          have hval3 := turns_sim d w2 (w2.alloc (.cells #[(.iface 100 (.agg z))] 66)) _ (fun b => New w (w2.alloc (.cells #[(.iface 100 (.agg z))] 66)) b ∧ (Value.slice A N cp).ownBlock ≠ some b) _ _ hval (fun b hb => ⟨⟨hb.1.1, by simp; have := hb.1.2; omega⟩, hb.2⟩) (fun b hb => heap_alloc_old _ _ hb.1.2)
          obtain ⟨xs, hown, hadd⟩ := hB3.own
          rw [HTL.out.2.2.2.2] at hown hadd
          have HADD := Lib.hid hadd
          have HVAL := Lib.hid hval3
          have HOWN := Lib.hid hown
          have hp4 := hp3.alloc hg (.cells #[(.iface 100 (.agg z))] 66)
          have hws := hp3.size
          have hlt3 := Lib.hid (fun b hb => (hB3.lt b hb).1)
          clear hval hval3 hadd hown hB2 hB3 hp2 hz hBq
          go_wp2_with (first
            | (at_builtin
               refine wpList_append_own_at _ rfl _ _ 61 rfl w.heap.size 66 i2 _ 1 16 Tryz.underlying61 hi2 hz20 hz21 hz22 rfl (by decide) _ _ _ rfl HOWN.out ⟨w2.heap.size, 0, none⟩ 1 1 [(.iface 100 (.agg z))] rfl rfl (cell_one_new _ _ _) ?q1 ?q2 ?q3 ?q4 ?_
               case q1 => intro u hu; simp at hu; subst hu; rfl
               case q2 => unfold maxLen; omega
               case q3 => omega
               case q4 => simp; omega
               intro v' w3 hown' hg' _ hat
               have hB5 := HADD.out _ _ v' w3 (turns_sim d) HVAL.out hown' hg' hat
               rw [HTL.out.2.2.2.1] at hB5
               obtain ⟨A', cp', hv'⟩ := own_slice hown'
               subst hv'
               have hp5 := hp4.grown hg hg' (fun b hb => hlt3.out b hb)))
          go_roundw
          case rel => exact ⟨n + 1, q2, N + 1, A', cp', rfl, rfl, by omega, hp5, hB5, HTL.out.2.2.1, HTL.out.1, HTL.out.2.1⟩
          case measure => simp only [lenOf]; exact HMS.out
        · have hqs : q < s.size := drop_lt (c := 46) (by rw [hT, he]; rfl)
          have hq : (q : Int) < (s.size : Int) := by omega
          have hcq : s[q] = 46 := drop_get (c := 46) (by rw [hT, he]; rfl) hqs
          have CALL := Lib.hid (fun W (h : Prs g s dep q W) => cls_sim m g s q y _ W hs h.c0 h.c1 (h.fz 1) _ hk hnm he hT hES)
          rw [← hq2] at CALL
          clear hT hES hT2 hE2 hlN htk hNn hmeas hym hyo hyk hdc hk hnm he hy hq2
          go_wp2_with fail
          go_quiet (fail)
          go_wp2_with fail
          go_quiet (fail)
          go_wp2_with fail
          refine (CALL.out _ (HP.out.pos (hpq.drewN _))).mono ?_
          rintro e w2 ⟨z, rfl, hz, hp2⟩
          have hB2 := (hBq.drewN (turns_sim d) _).pos (turns_sim d) hp2 hg
          have hval : (fun w P v s => SimV (GrpV w P d) v s) w2 (fun b => New w w2 b ∧ (Value.slice A N cp).ownBlock ≠ some b) (.iface 104 (.agg z)) y := hz _
          have hp3 := (hpq.drewN _).trans hp2
          have hB3 := hB2.alloc (turns_sim d) (.cells #[(.iface 104 (.agg z))] 66)
          have hval3 := turns_sim d w2 (w2.alloc (.cells #[(.iface 104 (.agg z))] 66)) _ (fun b => New w (w2.alloc (.cells #[(.iface 104 (.agg z))] 66)) b ∧ (Value.slice A N cp).ownBlock ≠ some b) _ _ hval (fun b hb => ⟨⟨hb.1.1, by simp; have := hb.1.2; omega⟩, hb.2⟩) (fun b hb => heap_alloc_old _ _ hb.1.2)
          obtain ⟨xs, hown, hadd⟩ := hB3.own
          rw [HTL.out.2.2.2.2] at hown hadd
          have HADD := Lib.hid hadd
          have HVAL := Lib.hid hval3
          have HOWN := Lib.hid hown
          have hp4 := hp3.alloc hg (.cells #[(.iface 104 (.agg z))] 66)
          have hws := hp3.size
          have hlt3 := Lib.hid (fun b hb => (hB3.lt b hb).1)
          clear hval hval3 hadd hown hB2 hB3 hp2 hz hBq
          go_wp2_with (first
            | (at_builtin
               refine wpList_append_own_at _ rfl _ _ 61 rfl w.heap.size 66 i2 _ 1 16 Tryz.underlying61 hi2 hz20 hz21 hz22 rfl (by decide) _ _ _ rfl HOWN.out ⟨w2.heap.size, 0, none⟩ 1 1 [(.iface 104 (.agg z))] rfl rfl (cell_one_new _ _ _) ?q1 ?q2 ?q3 ?q4 ?_
               case q1 => intro u hu; simp at hu; subst hu; rfl
               case q2 => unfold maxLen; omega
               case q3 => omega
               case q4 => simp; omega
               intro v' w3 hown' hg' _ hat
               have hB5 := HADD.out _ _ v' w3 (turns_sim d) HVAL.out hown' hg' hat
               rw [HTL.out.2.2.2.1] at hB5
               obtain ⟨A', cp', hv'⟩ := own_slice hown'
               subst hv'
               have hp5 := hp4.grown hg hg' (fun b hb => hlt3.out b hb)))
          go_roundw
          case rel => exact ⟨n + 1, q2, N + 1, A', cp', rfl, rfl, by omega, hp5, hB5, HTL.out.2.2.1, HTL.out.1, HTL.out.2.1⟩
          case measure => simp only [lenOf]; exact HMS.out
        · have hqs : q < s.size := drop_lt (c := 91) (by rw [hT, he]; rfl)
          have hq : (q : Int) < (s.size : Int) := by omega
          have hcq : s[q] = 91 := drop_get (c := 91) (by rw [hT, he]; rfl) hqs
          have CALL := Lib.hid (fun W (h : Prs g s dep q W) => attrs_sim m (grpT m d) (Q := grpOK d) g s q y _ W hs h.c0 h.c1 (h.fz 1) hk hyo hT)
          rw [← hq2] at CALL
          clear hT hES hT2 hE2 hlN htk hNn hmeas hym hyo hyk hdc hk hnm he hy hq2
          go_wp2_with fail
          go_quiet (fail)
          go_wp2_with fail
          go_quiet (fail)
          go_wp2_with fail
          refine (CALL.out _ (HP.out.pos (hpq.drewN _))).mono ?_
          rintro e w2 ⟨z, rfl, hz, hp2⟩
          have hB2 := (hBq.drewN (turns_sim d) _).pos (turns_sim d) hp2 hg
          have hval : (fun w P v s => SimV (GrpV w P d) v s) w2 (fun b => New w w2 b ∧ (Value.slice A N cp).ownBlock ≠ some b) (.iface 108 (.agg z)) y := hz _
          have hp3 := (hpq.drewN _).trans hp2
          have hB3 := hB2.alloc (turns_sim d) (.cells #[(.iface 108 (.agg z))] 66)
          have hval3 := turns_sim d w2 (w2.alloc (.cells #[(.iface 108 (.agg z))] 66)) _ (fun b => New w (w2.alloc (.cells #[(.iface 108 (.agg z))] 66)) b ∧ (Value.slice A N cp).ownBlock ≠ some b) _ _ hval (fun b hb => ⟨⟨hb.1.1, by simp; have := hb.1.2; omega⟩, hb.2⟩) (fun b hb => heap_alloc_old _ _ hb.1.2)
          obtain ⟨xs, hown, hadd⟩ := hB3.own
          rw [HTL.out.2.2.2.2] at hown hadd
          have HADD := Lib.hid hadd
          have HVAL := Lib.hid hval3
          have HOWN := Lib.hid hown
          have hp4 := hp3.alloc hg (.cells #[(.iface 108 (.agg z))] 66)
          have hws := hp3.size
          have hlt3 := Lib.hid (fun b hb => (hB3.lt b hb).1)
          clear hval hval3 hadd hown hB2 hB3 hp2 hz hBq
          go_wp2_with (first
            | (at_builtin
               refine wpList_append_own_at _ rfl _ _ 61 rfl w.heap.size 66 i2 _ 1 16 Tryz.underlying61 hi2 hz20 hz21 hz22 rfl (by decide) _ _ _ rfl HOWN.out ⟨w2.heap.size, 0, none⟩ 1 1 [(.iface 108 (.agg z))] rfl rfl (cell_one_new _ _ _) ?q1 ?q2 ?q3 ?q4 ?_
               case q1 => intro u hu; simp at hu; subst hu; rfl
               case q2 => unfold maxLen; omega
               case q3 => omega
               case q4 => simp; omega
               intro v' w3 hown' hg' _ hat
               have hB5 := HADD.out _ _ v' w3 (turns_sim d) HVAL.out hown' hg' hat
               rw [HTL.out.2.2.2.1] at hB5
               obtain ⟨A', cp', hv'⟩ := own_slice hown'
               subst hv'
               have hp5 := hp4.grown hg hg' (fun b hb => hlt3.out b hb)))
          go_roundw
          case rel => exact ⟨n + 1, q2, N + 1, A', cp', rfl, rfl, by omega, hp5, hB5, HTL.out.2.2.1, HTL.out.1, HTL.out.2.1⟩
          case measure => simp only [lenOf]; exact HMS.out
        · have hqs : q < s.size := drop_lt (c := 58) (by rw [hT, he]; rfl)
          have hq : (q : Int) < (s.size : Int) := by omega
          have hcq : s[q] = 58 := drop_get (c := 58) (by rw [hT, he]; rfl) hqs
          have CALL := Lib.hid (fun W (h : Prs g s dep q W) => pseudo_sim m g s q y _ W hs dep h d _ HC.out h0 h1 hyo hk hk' rfl hT hES)
          rw [← hq2] at CALL
          clear hT hES hT2 hE2 hlN htk hNn hmeas hym hyo hyk hdc hk hk' he hy hq2
          go_wp2_with fail
          go_quiet (fail)
          go_wp2_with fail
          go_quiet (fail)
          go_wp2_with fail
          refine (CALL.out _ (HP.out.pos (hpq.drewN _))).mono ?_
          rintro e w2 ⟨T1, z, rfl, hz, hp2⟩
          have hB2 := (hBq.drewN (turns_sim d) _).pos (turns_sim d) hp2 hg
          have hv2 := (hBq.drewN (turns_sim d) _).fresh (turns_sim d) hz (hpq.drewN _).size
          have hval : (fun w P v s => SimV (GrpV w P d) v s) w2 (fun b => New w w2 b ∧ (Value.slice A N cp).ownBlock ≠ some b) (.iface T1 z) y := hv2
          have hp3 := (hpq.drewN _).trans hp2
          have hB3 := hB2.alloc (turns_sim d) (.cells #[(.iface T1 z)] 66)
          have hval3 := turns_sim d w2 (w2.alloc (.cells #[(.iface T1 z)] 66)) _ (fun b => New w (w2.alloc (.cells #[(.iface T1 z)] 66)) b ∧ (Value.slice A N cp).ownBlock ≠ some b) _ _ hval (fun b hb => ⟨⟨hb.1.1, by simp; have := hb.1.2; omega⟩, hb.2⟩) (fun b hb => heap_alloc_old _ _ hb.1.2)
          obtain ⟨xs, hown, hadd⟩ := hB3.own
          rw [HTL.out.2.2.2.2] at hown hadd
          have HADD := Lib.hid hadd
          have HVAL := Lib.hid hval3
          have HOWN := Lib.hid hown
          have hp4 := hp3.alloc hg (.cells #[(.iface T1 z)] 66)
          have hws := hp3.size
          have hlt3 := Lib.hid (fun b hb => (hB3.lt b hb).1)
          clear hval hval3 hadd hown hB2 hB3 hp2 hz hv2 hBq
          go_wp2_with (first
            | (at_builtin
               refine wpList_append_own_at _ rfl _ _ 61 rfl w.heap.size 66 i2 _ 1 16 Tryz.underlying61 hi2 hz20 hz21 hz22 rfl (by decide) _ _ _ rfl HOWN.out ⟨w2.heap.size, 0, none⟩ 1 1 [(.iface T1 z)] rfl rfl (cell_one_new _ _ _) ?q1 ?q2 ?q3 ?q4 ?_
               case q1 => intro u hu; simp at hu; subst hu; rfl
               case q2 => unfold maxLen; omega
               case q3 => omega
               case q4 => simp; omega
               intro v' w3 hown' hg' _ hat
               have hB5 := HADD.out _ _ v' w3 (turns_sim d) HVAL.out hown' hg' hat
               rw [HTL.out.2.2.2.1] at hB5
               obtain ⟨A', cp', hv'⟩ := own_slice hown'
               subst hv'
               have hp5 := hp4.grown hg hg' (fun b hb => hlt3.out b hb)))
          go_roundw
          case rel => exact ⟨n + 1, q2, N + 1, A', cp', rfl, rfl, by omega, hp5, hB5, HTL.out.2.2.1, HTL.out.1, HTL.out.2.1⟩
          case measure => simp only [lenOf]; exact HMS.out

  clear hK1
  have HPRE := Lib.hid (fun (q : Nat) (h1 : s.data.toList.drop q = k.flatMap (simT m (grpT m d)) ++ rest) (h2 : q = i + (simT m (grpT m d) x).length) =>
    (⟨HK.out, h1, by rw [show (partsT m (grpT m d) l).length = ((shown m l).flatMap (simT m (grpT m d))).length from rfl, HL.out]; omega⟩ : (∀ t ∈ k, simOK (grpOK d) t ∧ 1 < t.kind) ∧ s.data.toList.drop q = k.flatMap (simT m (grpT m d)) ++ rest ∧ i + (partsT m (grpT m d) l).length = q + (k.flatMap (simT m (grpT m d))).length))
  rcases simT_lead (m := m) (G := grpT m d) HX.out with ⟨hk, hnm, c', r', he, hc1, hc2⟩ | ⟨hk, he⟩ | hk | hk | hk | hk
  · -- the name of a tag
    have e : c' = c := by rw [HXC.out] at he; injection he with he _; exact he.symm
    subst e
    have b1 : ((c'.toNat : Int) == 42) = false := by simp; omega
    have b2 : ((c'.toNat : Int) == 35) = false := by simp; omega
    have b3 : ((c'.toNat : Int) == 46) = false := by simp; omega
    have b4 : ((c'.toNat : Int) == 91) = false := by simp; omega
    have b5 : ((c'.toNat : Int) == 58) = false := by simp; omega
    have CALL := Lib.hid (fun W (h : Prs g s dep i W) => tag_sim g s i x _ W hs h.c0 h.c1 (h.fz 1) _ hk hnm (simT_0 (m := m) (G := grpT m d) hk) HD.out (tail_ends HK.out HR.out))
    have hq2 := HPRE.out (i + (simT m (grpT m d) x).length) (drop_add HD.out) rfl
    have hsl := HS.out
    rw [if_neg (by omega)] at hsl
    have HQ := Lib.hid (⟨hsl, hq2⟩ : _ ∧ _)
    have HKD := Lib.hid hk
    clear hsl hq2 hk hnm hc1 hc2 he
    go_quiet (fail)
    go_wp2_with fail
    refine (CALL.out _ (HP.out.pos (hp.drewN _))).mono ?_
    rintro e w2 ⟨z, rfl, hz, hp2⟩
    have hp3 := (hp.drewN _).trans hp2
    have hp4 := (hp3.alloc hg (.cells z 96)).alloc hg (.cells #[.iface 96 (.agg z)] 66)
    have hB3 : Bld (fun w P v s => SimV (GrpV w P d) v s) 66 w ((w2.alloc (.cells z 96)).alloc (.cells #[.iface 96 (.agg z)] 66)) (.slice none 0 0) [] := Bld.nil
    obtain ⟨xs, hown, hadd⟩ := hB3.own
    have hws := hp3.size
    have HADD := Lib.hid hadd
    have HOWN := Lib.hid hown
    have HZ := Lib.hid hz
    have hz1 : ∃ r : ByteArray, z = #[.string r] := ⟨x.name, by have := (hz (fun _ _ => False)).tag HKD.out; injection this with _ h; injection h with h⟩
    obtain ⟨r1, rfl⟩ := hz1
    clear hadd hown hB3 hz hp2
    go_wp2_with (first
      | (at_builtin
         refine wpList_append_own_at _ rfl _ _ 61 rfl w.heap.size 66 i2 _ 1 16 Tryz.underlying61 hi2 hz20 hz21 hz22 rfl (by decide) _ _ _ rfl HOWN.out ⟨w2.heap.size + 1, 0, none⟩ 1 1 [.iface 96 (.agg #[.string r1])] rfl rfl ?q0 ?q1 ?q2 ?q3 ?q4 ?_
         case q0 => have h := cell_one_new (w2.alloc (.cells #[.string r1] 96)) (.iface 96 (.agg #[.string r1])) 66; simpa using h
         case q1 => intro u hu; simp at hu; subst hu; rfl
         case q2 => unfold maxLen; simp
         case q3 => simp
         case q4 => simp; omega
         intro v' w3 hown' hg' _ hat
         have hB5 := HADD.out _ x v' w3 (turns_sim d) (HZ.out _) hown' hg' hat
         obtain ⟨A', cp', hv'⟩ := own_slice hown'
         subst hv'
         have hp5 := hp4.grown hg hg' (fun b hb => by cases hb)))
    exact CUT [x] k _ _ _ (by simp; omega) hp5 hB5 (Lib.hid ⟨HQ.out.1, HQ.out.2⟩)  _ _ _ _ _ _ _ _ _ _ _ _ _ _ _ _ _ _ _ _ _ _ _ _ _ _ _ _ _ _ _ _ _ _ _ _ _ _ _ _ _ _ _ _ _ _ _ _ _ _ _ _ _ _ _ _ _ _ _ _ _ _ _ _ _ _ _ _ _ _ _ _ _ _ _ _ _ _ _ _ _ _ _ _ _ _ _ _ _ _ _ _ _ _ _ _ _ _ _ _ _ _ _ _ _ _ _ _ _ _ _ _ _ _ _ _ _ _ _ _ _ _ _ _ _ _ _ _ _ _ _ _ _ _ _ _ _ _ _ _ _ _ _ _ _ _ _ _ _ _ _ _ _ _ _ _ _ _ _ _ _ _ _ _ _ _ _ _ _ _ _ _ _ _ _
  · -- the star
    have e : c = 42 := by rw [HXC.out] at he; injection he
    subst e
    obtain ⟨j, hj⟩ : ∃ j, j = i + 1 := ⟨_, rfl⟩
    have hdj : s.data.toList.drop j = k.flatMap (simT m (grpT m d)) ++ rest := by
      have h := drop_add HD.out
      rw [he] at h
      rw [hj]; exact h
    have hq2 := HPRE.out j hdj (by rw [he]; exact hj)
    have hsl := HS.out
    rw [if_pos hk] at hsl
    have HQ := Lib.hid (⟨hsl, hq2⟩ : _ ∧ _)
    have HJ := Lib.hid (show (i : Int) + 1 = (j : Int) by omega)
    have hne : (j : Int) + 2 < (s.size : Int) → ¬ s.extract j (j + 2) = ⟨#[124, 42]⟩ := fun hlt2 e => by
      have h1 := tail_ends (m := m) (G := grpT m d) HK.out HR.out
      rw [← hdj] at h1
      have h2 : (s.extract j (j + 2)).data.toList = (s.data.toList.drop j).take 2 := by
        simp [List.extract_eq_take_drop]
      rw [e] at h2
      cases hdd : s.data.toList.drop j with
      | nil => rw [hdd] at h2; cases h2
      | cons a t =>
        rw [hdd] at h2 h1
        simp at h2
        rcases h1 a rfl with h | h | h | h | h | h | h <;> (subst h; simp at h2)
    have HNE := Lib.hid hne
    have hjs : (j : Int) ≤ (s.size : Int) := by omega
    clear hq2 hsl hdj hne he hk hj
    go_quiet (fail)
    go_wp2_with fail
    simp only [HJ.out]
    by_cases hj2 : (j : Int) + 2 < (s.size : Int)
    · have hb : ((s.extract j (j + 2)).toList == [124, 42]) = false := by
        have h := HNE.out hj2
        rw [beq_eq_false_iff_ne]
        intro e
        exact h (eq_of_data (by rw [← ByteArray.toList_eq]; exact e))
      have hb1 : decide (j + 2 < s.size) = true := by simp; omega
      have hb2 : decide ((j : Int) + 2 < (s.size : Int)) = true := by simp; omega
      go_quiet (fail)
      go_wp2_with fail
      exact CUT [] k j _ _ (by simp; omega) (((hp.drewN _).set j).drewN _) Bld.nil (Lib.hid ⟨HQ.out.1, HQ.out.2⟩) _ _ _ _ _ _ _ _ _ _ _ _ _ _ _ _ _ _ _ _ _ _ _ _ _ _ _ _ _ _ _ _ _ _ _ _ _ _ _ _ _ _ _ _ _ _ _ _ _ _ _ _ _ _ _ _ _ _ _ _ _ _ _ _ _ _ _ _ _ _ _ _ _ _ _ _ _ _ _ _ _ _ _ _ _ _ _ _ _ _ _ _ _ _ _ _ _ _ _ _ _ _ _ _ _ _ _ _ _ _ _ _ _ _ _ _ _ _ _ _ _ _ _ _ _ _ _ _ _ _ _ _ _ _ _ _ _ _ _ _ _ _ _ _ _ _ _ _ _ _ _ _ _ _ _ _ _ _ _ _ _ _ _ _ _ _ _ _ _ _ _ _ _ _ _
    · have hb : decide (j + 2 < s.size) = false := by simp; omega
      have hb2 : decide ((j : Int) + 2 < (s.size : Int)) = false := by simp; omega
      clear hj2
      go_quiet (fail)
      go_wp2_with fail
      exact CUT [] k j _ _ (by simp; omega) (((hp.drewN _).set j).drewN _) Bld.nil (Lib.hid ⟨HQ.out.1, HQ.out.2⟩) _ _ _ _ _ _ _ _ _ _ _ _ _ _ _ _ _ _ _ _ _ _ _ _ _ _ _ _ _ _ _ _ _ _ _ _ _ _ _ _ _ _ _ _ _ _ _ _ _ _ _ _ _ _ _ _ _ _ _ _ _ _ _ _ _ _ _ _ _ _ _ _ _ _ _ _ _ _ _ _ _ _ _ _ _ _ _ _ _ _ _ _ _ _ _ _ _ _ _ _ _ _ _ _ _ _ _ _ _ _ _ _ _ _ _ _ _ _ _ _ _ _ _ _ _ _ _ _ _ _ _ _ _ _ _ _ _ _ _ _ _ _ _ _ _ _ _ _ _ _ _ _ _ _ _ _ _ _ _ _ _ _ _ _ _ _ _ _ _ _ _ _ _ _ _
  · have e : c = 35 := by
      obtain ⟨hk, _, he⟩ := hk
      rw [HXC.out] at he; injection he
    subst e
    have hk1 : 1 < x.kind := by
      obtain ⟨hk, _, he⟩ := hk
      omega
    have hsl := HS.out
    rw [if_neg (by omega)] at hsl
    have HQ := Lib.hid (show sels l = [] ++ (x :: k) ∧ (∀ t ∈ x :: k, simOK (grpOK d) t ∧ 1 < t.kind) ∧ s.data.toList.drop i = (x :: k).flatMap (simT m (grpT m d)) ++ rest ∧ i + (partsT m (grpT m d) l).length = i + ((x :: k).flatMap (simT m (grpT m d))).length from
      ⟨hsl, fun t ht => by
        rcases List.mem_cons.1 ht with rfl | ht
        · exact ⟨HX.out, hk1⟩
        · exact HK.out t ht, by rw [HD.out, List.flatMap_cons, List.append_assoc], by rw [show (partsT m (grpT m d) l).length = ((shown m l).flatMap (simT m (grpT m d))).length from rfl, HL.out, List.flatMap_cons, List.length_append]⟩)
    clear hk hk1 hsl
    go_quiet (fail)
    go_wp2_with fail
    exact CUT [] (x :: k) i _ _ (by simp; omega) (hp.drewN _) Bld.nil HQ _ _ _ _ _ _ _ _ _ _ _ _ _ _ _ _ _ _ _ _ _ _ _ _ _ _ _ _ _ _ _ _ _ _ _ _ _ _ _ _ _ _ _ _ _ _ _ _ _ _ _ _ _ _ _ _ _ _ _ _ _ _ _ _ _ _ _ _ _ _ _ _ _ _ _ _ _ _ _ _ _ _ _ _ _ _ _ _ _ _ _ _ _ _ _ _ _ _ _ _ _ _ _ _ _ _ _ _ _ _ _ _ _ _ _ _ _ _ _ _ _ _ _ _ _ _ _ _ _ _ _ _ _ _ _ _ _ _ _ _ _ _ _ _ _ _ _ _ _ _ _ _ _ _ _ _ _ _ _ _ _ _ _ _ _ _ _ _ _ _ _ _ _ _ _
  · have e : c = 46 := by
      obtain ⟨hk, _, he⟩ := hk
      rw [HXC.out] at he; injection he
    subst e
    have hk1 : 1 < x.kind := by
      obtain ⟨hk, _, he⟩ := hk
      omega
    have hsl := HS.out
    rw [if_neg (by omega)] at hsl
    have HQ := Lib.hid (show sels l = [] ++ (x :: k) ∧ (∀ t ∈ x :: k, simOK (grpOK d) t ∧ 1 < t.kind) ∧ s.data.toList.drop i = (x :: k).flatMap (simT m (grpT m d)) ++ rest ∧ i + (partsT m (grpT m d) l).length = i + ((x :: k).flatMap (simT m (grpT m d))).length from
      ⟨hsl, fun t ht => by
        rcases List.mem_cons.1 ht with rfl | ht
        · exact ⟨HX.out, hk1⟩
        · exact HK.out t ht, by rw [HD.out, List.flatMap_cons, List.append_assoc], by rw [show (partsT m (grpT m d) l).length = ((shown m l).flatMap (simT m (grpT m d))).length from rfl, HL.out, List.flatMap_cons, List.length_append]⟩)
    clear hk hk1 hsl
    go_quiet (fail)
    go_wp2_with fail
    exact CUT [] (x :: k) i _ _ (by simp; omega) (hp.drewN _) Bld.nil HQ _ _ _ _ _ _ _ _ _ _ _ _ _ _ _ _ _ _ _ _ _ _ _ _ _ _ _ _ _ _ _ _ _ _ _ _ _ _ _ _ _ _ _ _ _ _ _ _ _ _ _ _ _ _ _ _ _ _ _ _ _ _ _ _ _ _ _ _ _ _ _ _ _ _ _ _ _ _ _ _ _ _ _ _ _ _ _ _ _ _ _ _ _ _ _ _ _ _ _ _ _ _ _ _ _ _ _ _ _ _ _ _ _ _ _ _ _ _ _ _ _ _ _ _ _ _ _ _ _ _ _ _ _ _ _ _ _ _ _ _ _ _ _ _ _ _ _ _ _ _ _ _ _ _ _ _ _ _ _ _ _ _ _ _ _ _ _ _ _ _ _ _ _ _ _
  · have e : c = 91 := by
      obtain ⟨hk, _, r1, he⟩ := hk
      rw [HXC.out] at he; injection he
    subst e
    have hk1 : 1 < x.kind := by
      obtain ⟨hk, _, r1, he⟩ := hk
      omega
    have hsl := HS.out
    rw [if_neg (by omega)] at hsl
    have HQ := Lib.hid (show sels l = [] ++ (x :: k) ∧ (∀ t ∈ x :: k, simOK (grpOK d) t ∧ 1 < t.kind) ∧ s.data.toList.drop i = (x :: k).flatMap (simT m (grpT m d)) ++ rest ∧ i + (partsT m (grpT m d) l).length = i + ((x :: k).flatMap (simT m (grpT m d))).length from
      ⟨hsl, fun t ht => by
        rcases List.mem_cons.1 ht with rfl | ht
        · exact ⟨HX.out, hk1⟩
        · exact HK.out t ht, by rw [HD.out, List.flatMap_cons, List.append_assoc], by rw [show (partsT m (grpT m d) l).length = ((shown m l).flatMap (simT m (grpT m d))).length from rfl, HL.out, List.flatMap_cons, List.length_append]⟩)
    clear hk hk1 hsl
    go_quiet (fail)
    go_wp2_with fail
    exact CUT [] (x :: k) i _ _ (by simp; omega) (hp.drewN _) Bld.nil HQ _ _ _ _ _ _ _ _ _ _ _ _ _ _ _ _ _ _ _ _ _ _ _ _ _ _ _ _ _ _ _ _ _ _ _ _ _ _ _ _ _ _ _ _ _ _ _ _ _ _ _ _ _ _ _ _ _ _ _ _ _ _ _ _ _ _ _ _ _ _ _ _ _ _ _ _ _ _ _ _ _ _ _ _ _ _ _ _ _ _ _ _ _ _ _ _ _ _ _ _ _ _ _ _ _ _ _ _ _ _ _ _ _ _ _ _ _ _ _ _ _ _ _ _ _ _ _ _ _ _ _ _ _ _ _ _ _ _ _ _ _ _ _ _ _ _ _ _ _ _ _ _ _ _ _ _ _ _ _ _ _ _ _ _ _ _ _ _ _ _ _ _ _ _ _
  · have e : c = 58 := by
      obtain ⟨hk, _, r1, he⟩ := hk
      rw [HXC.out] at he; injection he
    subst e
    have hk1 : 1 < x.kind := by
      obtain ⟨hk, _, r1, he⟩ := hk
      omega
    have hsl := HS.out
    rw [if_neg (by omega)] at hsl
    have HQ := Lib.hid (show sels l = [] ++ (x :: k) ∧ (∀ t ∈ x :: k, simOK (grpOK d) t ∧ 1 < t.kind) ∧ s.data.toList.drop i = (x :: k).flatMap (simT m (grpT m d)) ++ rest ∧ i + (partsT m (grpT m d) l).length = i + ((x :: k).flatMap (simT m (grpT m d))).length from
      ⟨hsl, fun t ht => by
        rcases List.mem_cons.1 ht with rfl | ht
        · exact ⟨HX.out, hk1⟩
        · exact HK.out t ht, by rw [HD.out, List.flatMap_cons, List.append_assoc], by rw [show (partsT m (grpT m d) l).length = ((shown m l).flatMap (simT m (grpT m d))).length from rfl, HL.out, List.flatMap_cons, List.length_append]⟩)
    clear hk hk1 hsl
    go_quiet (fail)
    go_wp2_with fail
    exact CUT [] (x :: k) i _ _ (by simp; omega) (hp.drewN _) Bld.nil HQ _ _ _ _ _ _ _ _ _ _ _ _ _ _ _ _ _ _ _ _ _ _ _ _ _ _ _ _ _ _ _ _ _ _ _ _ _ _ _ _ _ _ _ _ _ _ _ _ _ _ _ _ _ _ _ _ _ _ _ _ _ _ _ _ _ _ _ _ _ _ _ _ _ _ _ _ _ _ _ _ _ _ _ _ _ _ _ _ _ _ _ _ _ _ _ _ _ _ _ _ _ _ _ _ _ _ _ _ _ _ _ _ _ _ _ _ _ _ _ _ _ _ _ _ _ _ _ _ _ _ _ _ _ _ _ _ _ _ _ _ _ _ _ _ _ _ _ _ _ _ _ _ _ _ _ _ _ _ _ _ _ _ _ _ _ _ _ _ _ _ _ _ _ _ _
end Go.Proofs.YtoindammaphefaaGreatDoor
