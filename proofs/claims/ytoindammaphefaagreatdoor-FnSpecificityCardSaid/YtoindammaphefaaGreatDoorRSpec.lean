/- PROVED: the tied card of laws.FnSpecificity: it returns true for every input, and its argument reads as before. Conditions: the listed package-level variables read as the program's text lays them (the card ties them to it). -/
import Derived.Test.YtoindammaphefaaGreatDoorLGroup
import Derived.Test.YtoindammaphefaaGreatDoorSGroup
import Derived.Test.YtoindammaphefaaGreatDoorSWrite
import Derived.Test.YtoindammaphefaaGreatDoorSWeight
import Derived.Test.YtoindammaphefaaGreatDoorISpec
import Derived.ChangeKeysEq
import Derived.Test.YtoindammaphefaaGreatDoorOpenG
import Derived.Carry
import Derived.OpenVars
import Derived.Test.YtoindammaphefaaGreatDoorCards
import Derived.Test.YtoindammaphefaaGreatDoorTie
import Derived.ProofKit
import Derived.OpenShut
import Derived.Lay
import Derived.LaidMore
import Derived.LaidOnce
import Derived.Stop.Joined
import Derived.SizedLaws
import Derived.SevenTiedAt
/- The walk of laws.FnSpecificity: it returns true for every group of selectors. No conditions beside the sizes that any slice has. -/
namespace Go.Proofs.YtoindammaphefaaGreatDoor
open Go.RowKit

def eq3 (a b : T3) : Bool := a.a == b.a && (a.b == b.b && a.c == b.c)
theorem eq3_refl (a : T3) : eq3 a a = true := by simp [eq3]
theorem eq_arr (a b : T3) (w : World) : (Op.equalIn 10000 32 (val3 a) (val3 b)).run Tryz.prog w = .ok (eq3 a b) w := by
  obtain ⟨a0, a1, a2⟩ := a
  obtain ⟨b0, b1, b2⟩ := b
  obtain ⟨i0, hi, hz0, hz1, hz2⟩ := info_parts (show (Tryz.prog.info? 3).map (fun i => (i.zero, i.size, i.bytes)) = some (some (.int .i64 0), 1, 8) by kernel_rfl)
  have hc : Tryz.prog.cellsOf 3 = 1 := by kernel_rfl
  unfold val3
  rw [show (10000 : Nat) = 9999 + 1 from rfl, run_equalIn_array w 9999 _ _ Tryz.underlying32 hi, hc]
  simp [List.range_succ, Op.eqItems, part, run_equalIn_int, go_sem, eq3]
  by_cases h0 : a0 = b0 <;> by_cases h1 : a1 = b1 <;> by_cases h2 : a2 = b2 <;> simp [h0, h1, h2]

set_option maxHeartbeats 4000000 in
set_option maxRecDepth 100000 in
theorem lawSpec (D : Nat) (v : Value) (l : Grp) (w : World) (hv : GrpIn w (fun b => b < w.heap.size) D v l) (hs : smallG D l) :
    Calls Tryz.prog 3 #[v] w fun e w' => e = .returned (.bool true) ∧ Below w.heap.size w w' := by
  obtain ⟨A, c0, rfl⟩ := hv.slice
  by_cases z1 : 2147483647 < (l.length : Int)
  · clear hv hs
    go_enter Tryz.func3, Tryz.ntmps3
    go_wp2_with fail
    go_ret
    exact ⟨rfl, Below.refl _ _⟩
  have HG := Lib.hid (group_mk_any D w _ _ l hv hs fun b hb => hb)
  have HS := Lib.hid hs
  clear hv hs
  go_enter Tryz.func3, Tryz.ntmps3
  go_wp2_with fail
  refine HG.out.mono ?_
  rintro e w1 ⟨v1, rfl, hv1, hb1⟩
  obtain ⟨A1, c1, rfl⟩ := hv1.slice
  have hP1 : ∀ b, New w w1 b → b < w1.heap.size := fun b hb => hb.2
  have HGC := Lib.hid (group_any 3 (by decide) (by decide) D w1 _ _ l hv1 HS.out hP1)
  have HV1 := Lib.hid hv1
  have HB1 := Lib.hid hb1
  clear hv1 hb1 hP1
  go_wp2_with fail
  refine HGC.out.mono ?_
  rintro e w2 ⟨b, rfl, hb2, hok⟩
  have hb12 := HB1.out.trans (hb2.mono HB1.out.size)
  rcases b with _ | _
  · clear hok HGC
    have HB := Lib.hid hb12
    clear hb12 hb2
    go_wp2_with fail
    go_ret
    exact ⟨rfl, HB.out⟩
  have hok := hok rfl
  have hv2 : GrpIn w2 (New w w2) D (.slice A1 l.length c1) l := HV1.out.turn (fun b hb => ⟨hb.1, Nat.lt_of_lt_of_le hb.2 hb2.size⟩) (Alike.below hb2 fun b hb => hb.2)
  have hP2 : ∀ b, New w w2 b → b < w2.heap.size := fun b hb => hb.2
  have HW := Lib.hid (writeG_any 3 (by decide) D w2 _ _ l hv2 hP2 hok)
  have HOK := Lib.hid hok
  have HV2 := Lib.hid hv2
  have HB2 := Lib.hid hb12
  clear hok hv2 hP2 hb12 hb2 HGC HV1 HB1
  go_wp2_with fail
  refine HW.out.mono ?_
  rintro e w3 ⟨r, rfl, hr, hb3⟩
  have hrs : r.size ≤ 140737488351232 := by
    rw [size_of_data hr]
    exact Nat.le_trans (grp_len false HOK.out) (by decide)
  have hv3 : GrpIn w3 (New w w3) D (.slice A1 l.length c1) l := HV2.out.turn (fun b hb => ⟨hb.1, Nat.lt_of_lt_of_le hb.2 hb3.size⟩) (Alike.below hb3 fun b hb => hb.2)
  have HI := Lib.hid (iSpec_any 2 r l w3 hrs (by decide) (by decide) HOK.out hr)
  have HV3 := Lib.hid hv3
  have HB3 := Lib.hid (HB2.out.trans (hb3.mono HB2.out.size))
  clear hr hrs hv3 hb3 HW HV2 HB2
  go_wp2_with fail
  refine HI.out.mono ?_
  rintro e w4 ⟨v4, rfl, hown, hb4⟩
  have hlw : (l.map (cpxW (grpW 2))).length = l.length := List.length_map ..
  obtain ⟨A4, c4, rfl⟩ := own_slice hown
  have HOWN := Lib.hid hown
  rw [hlw]
  have hv4 : GrpIn w4 (New w w4) D (.slice A1 l.length c1) l := HV3.out.turn (fun b hb => ⟨hb.1, Nat.lt_of_lt_of_le hb.2 hb4.size⟩) (Alike.below hb4 fun b hb => hb.2)
  have HV4 := Lib.hid hv4
  have HB4 := Lib.hid (HB3.out.trans (hb4.mono HB3.out.size))
  clear hown hv4 hb4 HI HV3 HB3
  have HBZ := Lib.hid hlw
  clear hlw
  go_wp2_with fail
  go_loopw [33] (fun v33 wr' => ∃ k : Nat, v33 = .int .i64 k ∧ k ≤ l.length ∧ Below w4.heap.size w4 wr') (fun v33 _ => l.length - (intOf v33).toNat)
  case atStart => exact ⟨0, rfl, Nat.zero_le _, Below.refl _ _⟩
  case round =>
    obtain ⟨k, rfl, hk, hb⟩ := hrel
    rcases hc : l[k]? with _ | c
    · have hkl : k = l.length := by rw [List.getElem?_eq_none_iff] at hc; omega
      have hlt : ¬ ((k : Int) < (l.length : Int)) := by omega
      have HB := Lib.hid (HB4.out.trans (hb.mono HB4.out.size))
      clear hc hb hkl
      go_wp2_with fail
      go_ret
      exact ⟨rfl, HB.out⟩
    · have hkl : k < l.length := (List.getElem?_eq_some_iff.1 hc).1
      have hlt : (k : Int) < (l.length : Int) := by omega
      obtain ⟨D', ad, rfl, rfl, hPa, cv, hcv, hcx⟩ := HV4.out.get hc
      obtain ⟨A2, cap2, rfl⟩ := hcx.slice
      have e0 : wr.cell? (ad.add k) = some (.slice A2 c.length cap2) := (hb.cell (by rw [add_lt]; exact hPa.2)).trans hcv
      have hokc := HOK.out.2.2 c (List.mem_of_getElem? hc)
      have ht : (l.map (cpxW (grpW 2)))[k]? = some (cpxW (grpW 2) c) := by rw [List.getElem?_map, hc]; rfl
      obtain ⟨ad4, c', hv', hbk, q0, q1, q2⟩ := HOWN.out.at ht
      injection hv' with hA hll hcc
      subst hA hcc
      clear hll
      obtain ⟨s1, s2, s3, hst⟩ : ∃ s1 s2 s3, cpxW (grpW 2) c = ⟨s1, s2, s3⟩ := ⟨_, _, _, rfl⟩
      rw [hst] at q0 q1 q2
      have hbk0 : (ad4.add (k * 3)).block < w4.heap.size := by rw [add_lt]; exact hbk
      have d0 : wr.cell? (ad4.add (k * 3)) = some (.int .i64 s1) := (hb.cell hbk0).trans q0
      have d1 : wr.cell? ⟨(ad4.add (k * 3)).block, (ad4.add (k * 3)).off + 1, none⟩ = some (.int .i64 s2) := cell_add1 _ _ _ ((hb.cell (by rw [add_lt]; exact hbk)).trans q1)
      have d2 : wr.cell? ⟨(ad4.add (k * 3)).block, (ad4.add (k * 3)).off + 2, none⟩ = some (.int .i64 s3) := cell_add2 _ _ _ ((hb.cell (by rw [add_lt]; exact hbk)).trans q2)
      have HCW := Lib.hid (show ∀ W, Below w4.heap.size w4 W → Calls Tryz.prog 9 #[.slice A2 c.length cap2] W fun e w' => WEnd ⟨s1, s2, s3⟩ W e w' from fun W hW => by
        have al : Alike (New w w4) w4 W := Alike.below hW fun b hb => hb.2
        have h := weight_any 2 (by decide) D' W (New w w4) _ c (hcx.turn (fun _ h => h) al fun v l h => h.turn (fun _ h => h) al) (fun b hb => Nat.lt_of_lt_of_le hb.2 hW.size) hokc
        rw [hst] at h
        exact h)
      have HEQ := Lib.hid (show ∀ W, (Op.equalIn 10000 32 (.agg #[.int .i64 s1, .int .i64 s2, .int .i64 s3]) (.agg #[.int .i64 s1, .int .i64 s2, .int .i64 s3])).run Tryz.prog W = .ok true W from fun W => by
        have h := eq_arr ⟨s1, s2, s3⟩ ⟨s1, s2, s3⟩ W
        rw [eq3_refl] at h
        exact h)
      have HBK := Lib.hid hb
      have hwz := Nat.lt_of_lt_of_le hbk0 hb.size
      have HWZ := Lib.hid hwz
      clear hc hcv hcx hokc ht hbk q0 q1 q2 hst hb hPa hbk0 hwz
      go_upto_region 12 with fail
      have heq := HEQ.out
      go_region_held3 (fun W => W.cell? (ad4.add (k * 3)) = some (.int .i64 s1) ∧ W.cell? ⟨(ad4.add (k * 3)).block, (ad4.add (k * 3)).off + 1, none⟩ = some (.int .i64 s2) ∧ W.cell? ⟨(ad4.add (k * 3)).block, (ad4.add (k * 3)).off + 2, none⟩ = some (.int .i64 s3))
        (first | exact ⟨d0, d1, d2⟩ | exact ⟨y0, y1, y2⟩ | go_keep) (first
        | (go_at_call 9
           refine (HCW.out _ (below_drew HBK.out)).mono ?_
           rintro e w5 ⟨he, hb5⟩
           have he' : e = .returned (.agg #[.int .i64 s1, .int .i64 s2, .int .i64 s3]) := he
           subst he'
           have y0 := (hb5.cell (p := ad4.add (k * 3)) HWZ.out).trans d0
           have y1 := (hb5.cell (p := ⟨(ad4.add (k * 3)).block, (ad4.add (k * 3)).off + 1, none⟩) HWZ.out).trans d1
           have y2 := (hb5.cell (p := ⟨(ad4.add (k * 3)).block, (ad4.add (k * 3)).off + 2, none⟩) HWZ.out).trans d2
           have HB5 := Lib.hid (HBK.out.trans (Below.undrew (hb5.mono (show w4.heap.size ≤ wr.heap.size from HBK.out.size))))
           clear he hb5))
      all_goals
        clear heq
        go_wp2_with fail
        exact ⟨⟨k + 1, by go_num, by omega, HB5.out⟩, by simp [intOf]; omega⟩
end Go.Proofs.YtoindammaphefaaGreatDoor
namespace Go.Proofs.YtoindammaphefaaGreatDoor.fnSpecificity
open Go.ChangeShapes Go.WideShapes Go.ChangeAt Go.RowKit
set_option linter.unusedVariables false

theorem own : ownKnob Tryz.prog.godebug = none := by kernel_rfl
theorem laidOut : laidOutB Tryz.prog = true := by kernel_rfl

/-- The laid tables meet the condition. -/
theorem laid_met (os : Os) : laidMetH Tryz.prog Rows.fnSpecificityRow.laid ((World.laidAll Tryz.prog os Rows.fnSpecificityRow.laid).forCall (fun _ _ => 0) ⟨#[], #[.slice none 0 0], []⟩).memory := by
  rw [MakeChecks.laidMetH_plain _ _ _ (by kernel_rfl)]
  exact laidMet_laidAll _ (by kernel_rfl) (by kernel_rfl)

set_option maxRecDepth 100000 in
theorem lifted (os : Os) (started : os.Started) (H : Type) (enc : TypeId × Value → H) :
    ReturnsInHanded {} Tryz.checked os 3 .any (fun w args => (Rows.fnSpecificitySpec.pre enc Tryz.prog Tryz.f3 [] false w args ∧ laidMetH Tryz.prog Rows.fnSpecificityRow.laid w) ∧ sizedMet enc Tryz.prog Tryz.f3 (OpenSpec.ofChange Rows.fnSpecificitySpec) false w args)
      (Rows.fnSpecificitySpec.post enc Tryz.prog Tryz.f3 false true false false) := by
  refine returnsInHanded_of_change_and (C := Tryz.checked) (X := fun w _ => laidMetH Tryz.prog Rows.fnSpecificityRow.laid w) (fun _ _ _ hh h => h.of_heap hh) own started (by kernel_rfl) Tryz.func3
    (ChangeSpec.witness_shaped (enc := enc) (C := Tryz.checked) (os := os) (X := fun w _ => laidMetH Tryz.prog Rows.fnSpecificityRow.laid w) false (World.laidAll Tryz.prog os Rows.fnSpecificityRow.laid) #[.slice none 0 0] 8 (World.laidAll_os _ _ _)
      (World.shaped_of_ZipB (by kernel_rfl) (by kernel_rfl)) (by kernel_rfl) (by kernel_rfl) (by kernel_rfl) (laid_met os)) ?_
  intro W base args ds gs before hval0 hW _ hsz hL _
  have hval : ∀ (j : Nat) t v, Tryz.f3.params[j]? = some t → args[j]? = some v → Value.okWide Tryz.prog W .any base t v := hval0
  have hW' := hW
  obtain ⟨p, q, hA0, hV, rfl, hfz, hnd⟩ := hW
  have hA : DataW.TrodAll enc Tryz.prog W 0 (fun _ => true) true Tryz.f3.params.toList args.toList ds p := hA0
  rw [Tryz.params3] at hA hval hsz
  obtain ⟨v0, d0, rfl, rfl, h0⟩ := trodAll_one hA
  have h0k := h0
  have hlt : ∀ x ∈ p, x.block < W.heap.size := fun x hx => by simpa using hW'.lt x (by simp [hx])
  obtain ⟨g1, g2, g3, rfl⟩ : ∃ g1 g2 g3, gs = [g1, g2, g3] := by
    rcases gs with _ | ⟨g1, _ | ⟨g2, _ | ⟨g3, _ | ⟨g4, gs⟩⟩⟩⟩
    · exact hV.elim
    · obtain ⟨_, _, _, _, _, _, _, _, _, _, h, _⟩ := hV
      exact h.elim
    · obtain ⟨_, _, _, _, _, _, _, _, _, _, h, _⟩ := hV
      obtain ⟨_, _, _, _, _, _, _, _, _, _, h, _⟩ := h
      exact h.elim
    · exact ⟨_, _, _, rfl⟩
    · obtain ⟨_, _, _, _, _, _, _, _, _, _, h, _⟩ := hV
      obtain ⟨_, _, _, _, _, _, _, _, _, _, h, _⟩ := h
      obtain ⟨_, _, _, _, _, _, _, _, _, _, h, _⟩ := h
      exact h.elim
  obtain ⟨A0, n0, c0, rfl⟩ := okWide_slice Tryz.underlying22 (hval 0 22 v0 rfl rfl)
  obtain ⟨fuel, hf0⟩ := h0
  obtain ⟨l, htre, hsm⟩ := open_group fuel fuel (Nat.le_refl _) _ _ hf0
  have z0 : smallG fuel l := hsm fun n hn => by
    have h := List.all_eq_true.1 hsz n (DataW.weights_mem_each (j := 0) (t := 22) (d := d0) rfl rfl n hn)
    simpa using h
  clear hA0 hval0
  refine (lawSpec fuel _ l W htre z0).mono fun e W' ⟨he, bel⟩ => ?_
  subst he
  exact ⟨_, rfl, _, _, _, [], _, q, hW', trodAll_mk1 (shut_bool Tryz.underlying4 _), (trodAll_cons_mk (Below.trod laidOut (by kernel_rfl) (of_decide_eq_true (by kernel_rfl)) h0k bel hlt) trodAll_mk0), bel.trodVars laidOut (by kernel_rfl) hV, bel.frame _, fun h => by cases h⟩

theorem over : Rows.FnSpecificitySaid :=
  OpenClaim.holds_of_wide 3 Tryz.f3 rfl rfl rfl rfl rfl rfl rfl ⟨rfl, rfl, rfl, rfl, rfl⟩ rfl rfl rfl rfl rfl (by kernel_rfl) Tryz.func3 (by kernel_rfl)
    (of_decide_eq_true (by kernel_rfl)) (by unfold Func.isWrapper; first | (rw [if_pos (by decide +kernel)]; kernel_rfl) | (rw [if_neg (by decide +kernel)]; exact ⟨rfl, rfl⟩))
    (fun os started H enc _ => lifted os started H enc)

theorem card_holds : Rows.FnSpecificityCardSaid :=
  Claim7.holds_tied_plain_at .later [] Rows.fnSpecificityCard.laidKinds true Rows.fnSpecificityCard.stood.harness true
    over (fun _ h => by cases h) (by kernel_rfl) (fun _ h => by cases h) fnSpecificity_row_tie rfl ⟨rfl, rfl⟩ (by kernel_rfl) rfl
    (fun f fn hf hfn => by
      obtain rfl : f = 3 := Option.some.inj ((show Tryz.prog.funcNamed Rows.fnSpecificityRow.func = some 3 by kernel_rfl).symm.trans hf) |>.symm
      obtain rfl : fn = Tryz.f3 := (Option.some.inj (Tryz.func3.symm.trans hfn)).symm
      exact ⟨by kernel_rfl, fun j t ht => by
        rw [Tryz.params3] at ht
        have hm : t ∈ [22] := by simpa using Array.mem_of_getElem? ht
        have hall : ([22].all fun u => !Tryz.prog.wantsStandIn u) = true := by kernel_rfl
        exact (show Tryz.prog.wantsStandIn t = false by simpa using List.all_eq_true.1 hall t hm)⟩)
    (by kernel_rfl)
#print axioms card_holds
end Go.Proofs.YtoindammaphefaaGreatDoor.fnSpecificity
