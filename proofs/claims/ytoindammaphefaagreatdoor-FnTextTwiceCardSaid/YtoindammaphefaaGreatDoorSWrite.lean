/- The walk of the reference's Write: it writes selectors as they should be. -/
import Derived.Test.YtoindammaphefaaGreatDoorGets
import Derived.Test.YtoindammaphefaaGreatDoorWcomb
import Derived.Deep.RegionHeld3
/- The walks of the reference's sign and write: a simple selector is written as it should be. -/
namespace Go.Proofs.YtoindammaphefaaGreatDoor
open Go.RowKit

/-- A text is answered, and no memory below is touched. -/
def TxtEnd (t : List UInt8) (w : World) (e : Ending) (w' : World) : Prop := ∃ r : ByteArray, e = .returned (.string r) ∧ r.data.toList = t ∧ Below w.heap.size w w'
/-- Write at depth n writes what Group lets through. -/
def WriteC (n : Nat) : Prop := ∀ (D : Nat) (w : World) (P : Nat → Prop) (v : Value) (l : Grp), GrpIn w P D v l → (∀ b, P b → b < w.heap.size) → grpOK n l → Calls Tryz.prog 8 #[v] w fun e w' => TxtEnd (grpT false n l) w e w'
set_option maxHeartbeats 4000000 in
set_option maxRecDepth 100000 in
theorem sign_any (k : Int) (w : World) (h1 : 5 ≤ k) (h2 : k ≤ 10) : Calls Tryz.prog 21 #[.int .i64 k] w fun e w' => TxtEnd (opT k) w e w' := by
  have HB := Lib.hid (fun o => (Below.refl w.heap.size w).alloc (Nat.le_refl _) o)
  rcases (by omega : k = 5 ∨ k = 6 ∨ k = 7 ∨ k = 8 ∨ k = 9 ∨ k = 10) with rfl | rfl | rfl | rfl | rfl | rfl
  all_goals
    clear h1 h2
    go_enter Tryz.func21, Tryz.ntmps21
    go_wp2_with fail
    go_ret
    exact ⟨_, rfl, by decide, HB.out _⟩
theorem below_drew {B : Nat} {a w : World} (h : Below B a w) : Below B a w.drew := ⟨h.os, h.tape, h.output, h.size, h.block⟩
theorem simT_attrS {m : Bool} {G : Grp → List UInt8} {s : Sim} (h1 : 5 ≤ s.kind) (h2 : s.kind ≤ 10) : simT m G s = attrT s := by
  unfold simT
  rw [if_neg (by omega), if_neg (by omega), if_neg (by omega), if_neg (by omega), if_neg (by omega), if_neg (by omega), if_neg (by omega), if_neg (by omega), if_neg (by omega)]
theorem simT_nth {m : Bool} {G : Grp → List UInt8} {s : Sim} (h : s.kind = 11) : simT m G s = nthT s.a s.b s.last s.ofType := by simp [simT, h]
theorem nthT_ne {a b : Int} {l o : Bool} (h : ¬ (a = 0 ∧ b = 1)) : nthT a b l o = 58 :: ([110, 116, 104, 45] ++ (lastT l ++ childT o)) ++ (40 :: (countT a b ++ [41])) := by rw [nthT, if_neg h]
theorem bytes1 {r : ByteArray} {l : List UInt8} {n : Nat} (h : r.data.toList = l) (hl : l.length ≤ n) : r.size ≤ n := by rw [size_of_data h]; exact hl
set_option maxHeartbeats 8000000 in
set_option maxRecDepth 100000 in
theorem write_any (n : Nat) (hn : n ≤ 2) (hC : WriteC n) (D : Nat) (w : World) (P : Nat → Prop) (A : Option Addr) (m c : Nat) (s : Sim) (hv : GrpIn w P D (.slice A m c) s.subs) (hP : ∀ b, P b → b < w.heap.size)
    (hs : simOK (grpOK n) s) : Calls Tryz.prog 13 #[simArg s (.slice A m c)] w fun e w' => TxtEnd (simT false (grpT false n) s) w e w' := by
  have hL : ∀ l, grpOK n l → (grpT false n l).length ≤ 200000 := fun l hl => Nat.le_trans (grp_len false hl) (by
    rcases (by omega : n = 0 ∨ n = 1 ∨ n = 2) with rfl | rfl | rfl <;> decide)
  obtain ⟨kind, name, value, fold, a, b, last, ofType, subs⟩ := s
  simp only [Sim.kind, Sim.name, Sim.value, Sim.fold, Sim.a, Sim.b, Sim.last, Sim.ofType, Sim.subs, simArg, simOK, kindOK] at *
  obtain ⟨hfold, -, hk⟩ := hs
  have HB := Lib.hid ((Below.refl w.heap.size w).alloc (Nat.le_refl _) (.cells #[.int .i64 kind, .string name, .string value, .bool fold, .int .i64 a, .int .i64 b, .bool last, .bool ofType, .slice A m c] 47))
  rcases hk with ⟨hk, hnm⟩ | hk | ⟨hk, hnm, hvl⟩ | ⟨hk, ha1, ha2, hb1, hb2⟩ | ⟨hk, hg⟩
  · have hz : name.size ≤ 12 := by rw [size_of_data rfl]; exact nameOK_len hnm
    clear hv hP hL hC hfold hnm
    rcases hk with rfl | rfl | rfl | rfl
    all_goals
      go_enter Tryz.func13, Tryz.ntmps13
      go_wp2_with fail
      go_ret
    · exact ⟨_, rfl, by simp [simT, Sim.kind, Sim.name], HB.out⟩
    · exact ⟨_, rfl, by rw [append_data]; simp [simT, Sim.kind, Sim.name, nameItems, wrt_plain], HB.out⟩
    · exact ⟨_, rfl, by rw [append_data]; simp [simT, Sim.kind, Sim.name, nameItems, wrt_plain], HB.out⟩
    · exact ⟨_, rfl, by rw [append_data, append_data]; simp [simT, Sim.kind, Sim.name], HB.out⟩
  · clear hv hP hL hC hfold
    rcases hk with rfl | rfl | rfl
    all_goals
      go_enter Tryz.func13, Tryz.ntmps13
      go_wp2_with fail
      go_ret
      exact ⟨_, rfl, by simp [simT, Sim.kind], HB.out⟩
  · have hz : name.size ≤ 12 := by rw [size_of_data rfl]; exact nameOK_len hnm
    have hz2 : value.size ≤ 40 := hvl.1
    clear hv hP hL hC hnm hvl
    by_cases h16 : kind = 16
    · subst h16
      obtain rfl : fold = false := by
        cases fold with
        | false => rfl
        | true => have := hfold rfl; omega
      clear hfold
      go_enter Tryz.func13, Tryz.ntmps13
      go_wp2_with fail
      go_ret
      exact ⟨_, rfl, by simp [simT, attrT, opT, foldT, Sim.kind, Sim.name, Sim.value, Sim.fold], HB.out⟩
    · have hk' : 5 ≤ kind ∧ kind ≤ 10 := by omega
      have n0 : (kind == 0) = false := by simp; omega
      have n1 : (kind == 1) = false := by simp; omega
      have n2 : (kind == 2) = false := by simp; omega
      have n3 : (kind == 3) = false := by simp; omega
      have n4 : (kind == 4) = false := by simp; omega
      have n16 : (kind == 16) = false := by simp; omega
      have n12 : (kind == 12) = false := by simp; omega
      have n13 : (kind == 13) = false := by simp; omega
      have n14 : (kind == 14) = false := by simp; omega
      have n15 : (kind == 15) = false := by simp; omega
      have n11 : (kind == 11) = false := by simp; omega
      have HT := Lib.hid (show simT false (grpT false n) (Sim.mk kind name value fold a b last ofType subs) = 91 :: (name.data.toList ++ (opT kind ++ (34 :: (value.data.toList ++ (34 :: (foldT fold ++ [93])))))) by
        rw [simT_attrS (by exact hk'.1) (by exact hk'.2)]
        rfl)
      have c1 : ¬ (1 : Nat) + name.size > 9223372036854775807 := by omega
      have c1' : ¬ (9223372036854775807 : Nat) < 1 + name.size := by omega
      have HS := Lib.hid (fun W => sign_any kind W hk'.1 hk'.2)
      have hol := opT_len kind
      have HOL := Lib.hid hol
      clear hk' hk hfold h16 hol
      rcases fold with _ | _
      all_goals
        go_enter Tryz.func13, Tryz.ntmps13
        go_upto_region 36 with fail
        go_region_held3 (fun W => Below w.heap.size w W ∧ w.heap.size < W.heap.size ∧ W.cell? ⟨w.heap.size, 0, none⟩ = some (.int .i64 kind) ∧ W.cell? ⟨w.heap.size, 1, none⟩ = some (.string name) ∧ W.cell? ⟨w.heap.size, 2, none⟩ = some (.string value)) (first | exact ⟨below_drew HB.out, by simp, by go_simp, by go_simp, by go_simp⟩ | exact ⟨hb4, hlt4, y0, y1, y2⟩ | go_keep) (first
          | (refine (HS.out _).mono ?_
             rintro e w2 ⟨r, rfl, hr, hb2⟩
             obtain ⟨q1, q2, q3, q4, q5⟩ := ‹Below w.heap.size w _ ∧ _ ∧ _ ∧ _ ∧ _›
             have hb4 : Below w.heap.size w w2 := q1.trans (hb2.mono (Nat.le_of_lt q2))
             have hlt4 : w.heap.size < w2.heap.size := Nat.lt_of_lt_of_le q2 hb2.size
             have y0 := ((bcell hb2).1 w.heap.size 0 q2).trans q3
             have y1 := ((bcell hb2).1 w.heap.size 1 q2).trans q4
             have y2 := ((bcell hb2).1 w.heap.size 2 q2).trans q5
             have zr : r.size ≤ 2 := bytes1 hr HOL.out
             have c2 : ¬ (9223372036854775807 : Nat) < 1 + name.size + r.size := by omega
             have c3 : ¬ (9223372036854775807 : Nat) < 1 + name.size + r.size + 1 := by omega
             have c4 : ¬ (9223372036854775807 : Nat) < 1 + name.size + r.size + 1 + value.size := by omega
             have c5 : ¬ (9223372036854775807 : Nat) < 1 + name.size + r.size + 1 + value.size + 1 := by omega
             have c6 : ¬ (9223372036854775807 : Nat) < 1 + name.size + r.size + 1 + value.size + 1 + 1 := by omega
             have c7 : ¬ (9223372036854775807 : Nat) < 1 + name.size + r.size + 1 + value.size + 1 + 2 := by omega
             have c8 : ¬ (9223372036854775807 : Nat) < 1 + name.size + r.size + 1 + value.size + 1 + 2 + 1 := by omega
             have HR := Lib.hid hr
             have HB4 := Lib.hid hb4
             clear hr))
        all_goals
          clear c2 c3 c4 c5 c6 c7 c8
          go_wp2_with fail
          go_ret
          exact ⟨_, rfl, by rw [HT.out]; simp [HR.out, foldT], HB4.out⟩
  · subst hk
    have HC := Lib.hid (fun W => count_any a b W (by omega) (by omega) (by omega) (by omega))
    have hcl : (countT a b).length ≤ 14 := by
      have h1 := decI_len a
      have h2 := decI_len b
      unfold countT
      split <;> simp <;> omega
    have HCL := Lib.hid hcl
    clear hv hP hL hC hfold hcl
    have hway : (a = 0 ∧ b = 1) ∨ (¬ (a = 0 ∧ b = 1)) ∧ ((a == 0) = false ∨ (a == 0) = true ∧ (b == 1) = false) := by
      by_cases h0 : a = 0
      · by_cases h1 : b = 1
        · exact .inl ⟨h0, h1⟩
        · exact .inr ⟨fun h => h1 h.2, .inr ⟨by simpa using h0, by simpa using h1⟩⟩
      · exact .inr ⟨fun h => h0 h.1, .inl (by simpa using h0)⟩
    rcases hway with ⟨rfl, rfl⟩ | ⟨hne, hway⟩
    · clear HC HCL
      rcases ofType with _ | _ <;> rcases last with _ | _
      all_goals
        go_enter Tryz.func13, Tryz.ntmps13
        go_wp2_with fail
        go_ret
        exact ⟨_, rfl, by simp [simT, nthT, firstT, childT, Sim.kind, Sim.a, Sim.b, Sim.last, Sim.ofType], HB.out⟩
    · have HT := Lib.hid (show simT false (grpT false n) (Sim.mk 11 name value fold a b last ofType subs) = 58 :: ([110, 116, 104, 45] ++ (lastT last ++ childT ofType)) ++ (40 :: (countT a b ++ [41])) by
        rw [simT_nth rfl]
        exact nthT_ne hne)
      clear hne
      rcases hway with x0 | ⟨x0, x1⟩ <;> rcases ofType with _ | _ <;> rcases last with _ | _
      all_goals
        go_enter Tryz.func13, Tryz.ntmps13
        go_wp2_with fail
        refine (HC.out _).mono ?_
        rintro e w1 ⟨r1, rfl, hr1, hb3⟩
        have z1 : r1.size ≤ 14 := bytes1 hr1 HCL.out
        have HR1 := Lib.hid hr1
        have HB1 := Lib.hid (HB.out.trans (hb3.mono (by simp)))
        clear hr1 hb3
        go_wp2_with fail
        go_ret
        exact ⟨_, rfl, by rw [HT.out]; simp [HR1.out, lastT, childT], HB1.out⟩
  · have HG := Lib.hid (fun (W : World) (ha : Alike P w W) (hs : w.heap.size ≤ W.heap.size) => hC D W P _ _ (hv.turn (fun _ h => h) ha) (fun b hb => Nat.lt_of_lt_of_le (hP b hb) hs) hg)
    have HA := Lib.hid (Alike.below HB.out hP)
    have hgl := hL _ hg
    have HGL := Lib.hid hgl
    clear hv hP hL hC hfold hgl
    rcases hk with rfl | rfl
    all_goals
      go_enter Tryz.func13, Tryz.ntmps13
      go_wp2_with fail
      refine (HG.out _ HA.out (by simp)).mono ?_
      rintro e w1 ⟨r1, rfl, hr1, hb3⟩
      have z1 : r1.size ≤ 200000 := bytes1 hr1 HGL.out
      have HR1 := Lib.hid hr1
      have HB1 := Lib.hid (HB.out.trans (hb3.mono (by simp)))
      clear hr1 hb3
      go_wp2_with fail
      go_ret
      exact ⟨_, rfl, by simp [HR1.out, simT, relName, Sim.kind, Sim.subs], HB1.out⟩
end Go.Proofs.YtoindammaphefaaGreatDoor
namespace Go.Proofs.YtoindammaphefaaGreatDoor
open Go.RowKit

/-! ### What is written behind so many -/
def partsU (m : Bool) (n : Nat) (l : List Sim) (k : Nat) : List UInt8 := (l.take k).flatMap (simT m (grpT m n))
def joinU (k : Nat) (j : ByteArray) : List UInt8 := if k = 0 then [] else joinT false j.data.toList
def cpxU (n : Nat) : Nat → Cpx → List UInt8
  | 0, _ => []
  | _ + 1, [] => []
  | k + 1, p :: c => partsT false (grpT false n) p.2 ++ (c.take k).flatMap (cmpT false (grpT false n))
def grpU (n : Nat) : Nat → Grp → List UInt8
  | 0, _ => []
  | _ + 1, [] => []
  | k + 1, c :: l => cpxT false (grpT false n) c ++ (l.take k).flatMap fun c => 44 :: 32 :: cpxT false (grpT false n) c
theorem partsU_succ {n : Nat} {l : List Sim} {k : Nat} {s : Sim} (h : l[k]? = some s) : partsU false n l (k + 1) = partsU false n l k ++ simT false (grpT false n) s := by
  rw [partsU, partsU, List.take_add_one, h]
  simp
theorem partsU_all (n : Nat) (l : List Sim) : partsU false n l l.length = partsT false (grpT false n) l := by
  have : shown false l = l := by
    match l with
    | [] => rfl
    | [_] => rfl
    | _ :: _ :: _ => simp [shown]
  rw [partsU, partsT, List.take_length, this]
theorem cpxU_succ {n : Nat} {c : Cpx} {k : Nat} {p : Cmp} (h : c[k]? = some p) : cpxU n (k + 1) c = cpxU n k c ++ (joinU k p.1 ++ partsT false (grpT false n) p.2) := by
  match c, k with
  | [], _ => simp at h
  | q :: c, 0 =>
    simp at h; subst h
    simp [cpxU, joinU]
  | q :: c, k + 1 =>
    simp only [List.getElem?_cons_succ] at h
    rw [cpxU, cpxU, List.take_add_one, h]
    simp [cmpT, joinU]
theorem cpxU_all (n : Nat) (c : Cpx) : cpxU n c.length c = cpxT false (grpT false n) c := by
  match c with
  | [] => rfl
  | p :: c => simp [cpxU, cpxT]
theorem grpU_succ {n : Nat} {l : Grp} {k : Nat} {c : Cpx} (h : l[k]? = some c) : grpU n (k + 1) l = grpU n k l ++ ((if k = 0 then [] else [44, 32]) ++ cpxT false (grpT false n) c) := by
  match l, k with
  | [], _ => simp at h
  | q :: l, 0 =>
    simp at h; subst h
    simp [grpU]
  | q :: l, k + 1 =>
    simp only [List.getElem?_cons_succ] at h
    rw [grpU, grpU, List.take_add_one, h]
    simp
theorem grpU_all (n : Nat) (l : Grp) : grpU n l.length l = grpT false (n + 1) l := by
  match l with
  | [] => rfl
  | c :: l => simp [grpU, grpT, listT]

set_option maxHeartbeats 8000000 in
set_option maxRecDepth 100000 in
theorem writeG_step (n : Nat) (hn : n ≤ 2) (hC : WriteC n) : WriteC (n + 1) := by
  intro D w P v l hv hP hok
  obtain ⟨A, c0, rfl⟩ := hv.slice
  obtain ⟨hl1, hl3, hok⟩ := hok
  have HOKG := Lib.hid hok
  have HC := Lib.hid hC
  have HV := Lib.hid hv
  have HP := Lib.hid hP
  have HSL : Hid (∀ s, simOK (grpOK n) s → (simT false (grpT false n) s).length ≤ 200000) := Lib.hid fun s hs => Nat.le_trans (sim_len hs fun l hl => grp_len false hl) (by
    rcases (by omega : n = 0 ∨ n = 1 ∨ n = 2) with rfl | rfl | rfl <;> decide)
  clear hC hv hP hok
  go_enter Tryz.func8, Tryz.ntmps8
  go_wp2_with fail
  go_loopw [3, 12] (fun v3 v12 wr' => ∃ (k : Nat) (r : ByteArray), v3 = .string r ∧ v12 = .int .i64 k ∧ k ≤ l.length ∧ r.size ≤ 4000000 * k ∧ Below w.heap.size w wr' ∧ Hid (r.data.toList = grpU n k l))
    (fun _ v12 _ => l.length - (intOf v12).toNat)
  case atStart => exact ⟨0, ⟨#[]⟩, rfl, rfl, Nat.zero_le _, by decide, Below.refl _ _, Lib.hid rfl⟩
  case round =>
    obtain ⟨k, r, rfl, rfl, hk, hr, hb, H⟩ := hrel
    rcases hc : l[k]? with _ | c
    · have hkl : k = l.length := by rw [List.getElem?_eq_none_iff] at hc; omega
      have hlt : ¬ ((k : Int) < (l.length : Int)) := by omega
      have HT := Lib.hid (show r.data.toList = grpT false (n + 1) l by rw [H.out, hkl]; exact grpU_all n l)
      have HB := Lib.hid hb
      clear hc hkl hb
      go_wp2_with fail
      go_ret
      exact ⟨_, rfl, HT.out, HB.out⟩
    · have hkl : k < l.length := (List.getElem?_eq_some_iff.1 hc).1
      have hlt : (k : Int) < (l.length : Int) := by omega
      obtain ⟨D', ad, rfl, rfl, hPa, cv, hcv, hcx⟩ := HV.out.get hc
      obtain ⟨A2, cap2, rfl⟩ := hcx.slice
      have hal := Alike.below hb HP.out
      have e0 : wr.cell? (ad.add k) = some (.slice A2 c.length cap2) := (hal.cell (by rw [add_lt]; exact hPa)).trans hcv
      have hok := HOKG.out c (List.mem_of_getElem? hc)
      have hc4 := hok.2.1
      have HCX := Lib.hid hcx
      have HOC := Lib.hid hok
      have HL := Lib.hid hc
      have HB := Lib.hid hb
      have hz : (⟨#[44, 32]⟩ : ByteArray).size = 2 := rfl
      clear hc hcv hcx hal hok hPa hb
      obtain ⟨base, hbase⟩ : ∃ base, base = grpU n k l ++ (if k = 0 then [] else [44, 32]) := ⟨_, rfl⟩
      have HBASE := Lib.hid hbase
      have hway : ∃ r0 : ByteArray, Hid (r0.data.toList = base) ∧ r0.size ≤ 4000000 * k + 2 ∧ ((0 : Int) < (k : Int) ∧ r0 = r ++ ⟨#[44, 32]⟩ ∨ ¬ (0 : Int) < (k : Int) ∧ r0 = r) := by
        by_cases h0 : (0 : Int) < (k : Int)
        · exact ⟨r ++ ⟨#[44, 32]⟩, Lib.hid (by rw [append_data, H.out, hbase, if_neg (by omega)]), by rw [ByteArray.size_append, hz]; omega, .inl ⟨h0, rfl⟩⟩
        · have hk0 : k = 0 := by omega
          exact ⟨r, Lib.hid (by rw [H.out, hbase, if_pos hk0, List.append_nil]), Nat.le_trans hr (Nat.le_add_right _ _), .inr ⟨h0, rfl⟩⟩
      obtain ⟨r0, H0, hr0, hway⟩ := hway
      clear hbase hz
      rcases hway with ⟨x0, e1⟩ | ⟨x0, e1⟩
      all_goals
        subst e1
        go_wp2_with fail
        obtain ⟨W0, rfl⟩ : ∃ W0, W0 = wr := ⟨wr, rfl⟩
        go_loopw [3, 23] (fun v3 v23 wr' => ∃ (k2 : Nat) (r1 : ByteArray), v3 = .string r1 ∧ v23 = .int .i64 k2 ∧ k2 ≤ c.length ∧ r1.size ≤ 4000000 * k + 2 + 900000 * k2 ∧ Below w.heap.size w wr' ∧ Hid (r1.data.toList = base ++ cpxU n k2 c))
          (fun _ v23 _ => c.length - (intOf v23).toNat)
        case atStart => exact ⟨0, _, rfl, rfl, Nat.zero_le _, Nat.le_trans hr0 (Nat.le_add_right _ _), HB.out, Lib.hid (by rw [H0.out]; simp [cpxU])⟩
        case round =>
          obtain ⟨k2, r1, rfl, rfl, hk2, hr1, hb, H2⟩ := hrel
          rcases hp : c[k2]? with _ | p
          · have hkl2 : k2 = c.length := by rw [List.getElem?_eq_none_iff] at hp; omega
            have hlt2 : ¬ ((k2 : Int) < (c.length : Int)) := by omega
            have HB2 := Lib.hid hb
            have HT := Lib.hid (show r1.data.toList = grpU n (k + 1) l by rw [H2.out, hkl2, cpxU_all, HBASE.out, grpU_succ HL.out]; simp)
            clear hp hb
            go_wp2_with fail
            refine ⟨⟨k + 1, _, rfl, by go_num, by omega, by omega, HB2.out, HT.out⟩, by simp [intOf]; omega⟩
          · have hkl2 : k2 < c.length := (List.getElem?_eq_some_iff.1 hp).1
            have hlt2 : (k2 : Int) < (c.length : Int) := by omega
            obtain ⟨ad2, rfl, hPa2, hj0, pv, hpv, hpi⟩ := HCX.out.get hp
            obtain ⟨A3, cap3, rfl⟩ := hpi.slice
            have hal := Alike.below hb HP.out
            have f0 : wr.cell? (ad2.add (k2 * 2)) = some (.string p.1) := (hal.cell (by rw [add_lt]; exact hPa2)).trans hj0
            have f1 := cell_add1 _ _ _ ((hal.cell (a := ad2.add (k2 * 2 + 1)) (by rw [add_lt]; exact hPa2)).trans hpv)
            obtain ⟨hsp, hjo⟩ := HOC.out.2.2 k2 p hp
            have hp4 := hsp.2.1
            have HPI := Lib.hid hpi
            have HSP := Lib.hid hsp
            have HLP := Lib.hid hp
            have HB2 := Lib.hid hb
            have hz : (⟨#[32]⟩ : ByteArray).size = 1 := rfl
            obtain ⟨base2, hbase2⟩ : ∃ base2, base2 = base ++ cpxU n k2 c ++ joinU k2 p.1 := ⟨_, rfl⟩
            have HBASE2 := Lib.hid hbase2
            have hway2 : ∃ r2 : ByteArray, Hid (r2.data.toList = base2) ∧ r2.size ≤ r1.size + 3 ∧ (¬ (0 : Int) < (k2 : Int) ∧ r2 = r1 ∨ (0 : Int) < (k2 : Int) ∧ p.1.toList = [32] ∧ r2 = r1 ++ ⟨#[32]⟩ ∨ (0 : Int) < (k2 : Int) ∧ ¬ p.1.toList = [32] ∧ p.1.size = 1 ∧ r2 = r1 ++ (⟨#[32]⟩ ++ p.1 ++ ⟨#[32]⟩)) := by
              by_cases h0 : (0 : Int) < (k2 : Int)
              · have hj := hjo (by omega)
                have hj1 : p.1.size = 1 := by rcases hj with h | h | h | h <;> rw [h] <;> rfl
                have e2 : p.1.data.toList = p.1.toList := by rw [ByteArray.toList_eq]
                by_cases h1 : p.1.toList = [32]
                · exact ⟨r1 ++ ⟨#[32]⟩, Lib.hid (by rw [append_data, H2.out, hbase2, joinU, if_neg (by omega), e2, h1]; rfl), by rw [ByteArray.size_append, hz]; omega, .inr (.inl ⟨h0, h1, rfl⟩)⟩
                · exact ⟨r1 ++ (⟨#[32]⟩ ++ p.1 ++ ⟨#[32]⟩), Lib.hid (by rw [append_data, append_data, append_data, H2.out, hbase2, joinU, if_neg (by omega), joinT, if_neg (by rw [e2]; exact h1)]; simp),
                    by rw [ByteArray.size_append, ByteArray.size_append, ByteArray.size_append, hz, hj1]; omega, .inr (.inr ⟨h0, h1, hj1, rfl⟩)⟩
              · exact ⟨r1, Lib.hid (by rw [H2.out, hbase2, joinU, if_pos (by omega), List.append_nil]), by omega, .inl ⟨h0, rfl⟩⟩
            obtain ⟨r2, HR2, hr2, hway2⟩ := hway2
            clear hbase2 hz hp hj0 hpv hpi hal hsp hjo hPa2 hb
            have bq : ∀ l : List UInt8, ¬ p.1.toList = l → (p.1.toList == l) = false := fun l h => by simpa using h
            have bp : ∀ l : List UInt8, p.1.toList = l → (p.1.toList == l) = true := fun l h => by simpa using h
            have BQ := Lib.hid bq
            have BP := Lib.hid bp
            clear bq bp
            rcases hway2 with ⟨z0, e2⟩ | ⟨z0, z1, e2⟩ | ⟨z0, z1, z2, e2⟩
            all_goals
              subst e2
              try have y1 := BQ.out _ z1
              try have y2 := BP.out _ z1
              go_wp2_with fail
              obtain ⟨W1, rfl⟩ : ∃ W1, W1 = wr := ⟨wr, rfl⟩
              go_loopw [3, 48] (fun v3 v48 wr' => ∃ (k3 : Nat) (r3 : ByteArray), v3 = .string r3 ∧ v48 = .int .i64 k3 ∧ k3 ≤ p.2.length ∧ r3.size ≤ 4000000 * k + 2 + 900000 * k2 + 3 + 200000 * k3 ∧ Below w.heap.size w wr' ∧ Hid (r3.data.toList = base2 ++ partsU false n p.2 k3))
                (fun _ v48 _ => p.2.length - (intOf v48).toNat)
              case atStart => exact ⟨0, _, rfl, rfl, Nat.zero_le _, Nat.le_trans (Nat.le_trans hr2 (Nat.add_le_add_right hr1 3)) (Nat.le_add_right _ _), HB2.out.alloc HB2.out.size _, Lib.hid (by rw [HR2.out]; simp [partsU])⟩
              case round =>
                obtain ⟨k3, r3, rfl, rfl, hk3, hr3, hb, H3⟩ := hrel
                rcases hs : p.2[k3]? with _ | s
                · have hkl3 : k3 = p.2.length := by rw [List.getElem?_eq_none_iff] at hs; omega
                  have hlt3 : ¬ ((k3 : Int) < (p.2.length : Int)) := by omega
                  have HB3 := Lib.hid hb
                  have HZ5 := Lib.hid (show r3.size ≤ 4000000 * k + 2 + 900000 * (k2 + 1) by omega)
                  have HT := Lib.hid (show r3.data.toList = base ++ cpxU n (k2 + 1) c by rw [H3.out, hkl3, partsU_all, HBASE2.out, cpxU_succ HLP.out]; simp)
                  clear hs hb
                  go_wp2_with fail
                  first
                    | refine ⟨⟨_, _, _, _, _, ⟨k2 + 1, r3, rfl, by go_num, by omega, HZ5.out, HB3.out, HT.out⟩, rfl, rfl, rfl, rfl, rfl⟩, by simp [intOf]; omega⟩
                    | refine ⟨⟨k2 + 1, r3, rfl, by go_num, by omega, HZ5.out, HB3.out, HT.out⟩, by simp [intOf]; omega⟩
                · have hkl3 : k3 < p.2.length := (List.getElem?_eq_some_iff.1 hs).1
                  have hlt3 : (k3 : Int) < (p.2.length : Int) := by omega
                  obtain ⟨ad3, rfl, hPa3, hsi⟩ := HPI.out.get hs
                  have hal := Alike.below hb HP.out
                  obtain ⟨sv, ⟨d0, d1, d2, d3, d4, d5, d6, d7, d8⟩, hgi⟩ := hsi.cells hPa3 hal
                  obtain ⟨A4, cap4, rfl⟩ := hgi.slice
                  have hss := (HSP.out.2.2 k3 s hs).1
                  have hal2 := hal.alloc (fun b hb' => Nat.lt_of_lt_of_le (HP.out b hb') hb.size) (.cells #[.int .i64 s.kind, .string s.name, .string s.value, .bool s.fold, .int .i64 s.a, .int .i64 s.b, .bool s.last, .bool s.ofType, .slice A4 s.subs.length cap4] 47)
                  have HSI := Lib.hid (write_any n hn HC.out D' (wr.alloc (.cells #[.int .i64 s.kind, .string s.name, .string s.value, .bool s.fold, .int .i64 s.a, .int .i64 s.b, .bool s.last, .bool s.ofType, .slice A4 s.subs.length cap4] 47)) P A4 s.subs.length cap4 s
                    (hgi.turn (fun _ h => h) hal2) (fun b hb' => by have := HP.out b hb'; have := hb.size; simp; omega) hss)
                  have HSZ := Lib.hid (HSL.out s hss)
                  have HLS := Lib.hid hs
                  have HB3 := Lib.hid hb
                  clear hs hsi hal hgi hss hal2 hPa3 hb
                  go_wp2_with fail
                  refine HSI.out.mono ?_
                  rintro e w5 ⟨r4, rfl, hr4, hb5⟩
                  have hb6 := (HB3.out.alloc HB3.out.size (.cells #[.int .i64 s.kind, .string s.name, .string s.value, .bool s.fold, .int .i64 s.a, .int .i64 s.b, .bool s.last, .bool s.ofType, .slice A4 s.subs.length cap4] 47)).trans (hb5.mono (by have := HB3.out.size; simp; omega))
                  have z4 : r4.size ≤ 200000 := bytes1 hr4 HSZ.out
                  have HR4 := Lib.hid hr4
                  have HB6 := Lib.hid hb6
                  clear hr4 hb5 hb6
                  go_wp2_with fail
                  refine ⟨⟨k3 + 1, _, rfl, by go_num, by omega, by rw [ByteArray.size_append]; omega, HB6.out, Lib.hid (by rw [append_data, H3.out, HR4.out, partsU_succ HLS.out]; simp)⟩, by simp [intOf]; omega⟩
theorem writeG_any : ∀ n, n ≤ 3 → WriteC n := by
  intro n
  induction n with
  | zero => intro _ D w P v l _ _ h; exact h.elim
  | succ n ih => intro h; exact writeG_step n (by omega) (ih (by omega))
end Go.Proofs.YtoindammaphefaaGreatDoor
