/- The walks of String of the simple selectors. -/
import Derived.Test.YtoindammaphefaaGreatDoorSWrite
import Derived.Test.YtoindammaphefaaGreatDoorLib
namespace Go.Proofs.YtoindammaphefaaGreatDoor
open Go.RowKit

theorem tagS (r : ByteArray) (w : World) : Calls Tryz.prog 132 #[.agg #[.string r]] w fun e w' => TxtEnd r.data.toList w e w' := by
  go_enter Tryz.func132, Tryz.ntmps132
  go_wp2_with fail
  go_ret
  exact ⟨_, rfl, rfl, (Below.refl _ _).alloc (Nat.le_refl _) _⟩
theorem emptyS (w : World) : Calls Tryz.prog 168 #[.agg #[]] w fun e w' => TxtEnd [58, 101, 109, 112, 116, 121] w e w' := by
  go_enter Tryz.func168, Tryz.ntmps168
  go_wp2_with fail
  go_ret
  exact ⟨_, rfl, rfl, (Below.refl _ _).alloc (Nat.le_refl _) _⟩
theorem rootS (w : World) : Calls Tryz.prog 170 #[.agg #[]] w fun e w' => TxtEnd [58, 114, 111, 111, 116] w e w' := by
  go_enter Tryz.func170, Tryz.ntmps170
  go_wp2_with fail
  go_ret
  exact ⟨_, rfl, rfl, (Below.refl _ _).alloc (Nat.le_refl _) _⟩
set_option maxHeartbeats 1000000 in
theorem idS (r : ByteArray) (hr : r.size ≤ 1000) (w : World) : Calls Tryz.prog 136 #[.agg #[.string r]] w fun e w' => TxtEnd (35 :: wrt (nameItems true r.data.toList)) w e w' := by
  have HE := Lib.hid (fun W => escape_any r W (by omega))
  have HL := Lib.hid (show (wrt (nameItems true r.data.toList)).length ≤ 2000 by have := nameItems_len true r.data.toList; have e : r.data.toList.length = r.size := (size_of_data rfl).symm; omega)
  have HA := Lib.hid (fun o => (Below.refl w.heap.size w).alloc (Nat.le_refl _) o)
  clear hr
  go_enter Tryz.func136, Tryz.ntmps136
  go_wp2_with fail
  refine (HE.out _).mono ?_
  rintro e w2 ⟨r2, rfl, hr2, hb2⟩
  have z2 : r2.size ≤ 2000 := bytes1 hr2 HL.out
  have c1 : ¬ (9223372036854775807 : Nat) < 1 + r2.size := by omega
  have HR := Lib.hid hr2
  have HB := Lib.hid ((HA.out _).trans (hb2.mono (by simp)))
  clear hr2 hb2
  go_wp2_with fail
  go_ret
  exact ⟨_, rfl, by rw [append_data, HR.out]; rfl, HB.out⟩
set_option maxHeartbeats 1000000 in
theorem clsS (r : ByteArray) (hr : r.size ≤ 1000) (w : World) : Calls Tryz.prog 144 #[.agg #[.string r]] w fun e w' => TxtEnd (46 :: wrt (nameItems true r.data.toList)) w e w' := by
  have HE := Lib.hid (fun W => escape_any r W (by omega))
  have HL := Lib.hid (show (wrt (nameItems true r.data.toList)).length ≤ 2000 by have := nameItems_len true r.data.toList; have e : r.data.toList.length = r.size := (size_of_data rfl).symm; omega)
  have HA := Lib.hid (fun o => (Below.refl w.heap.size w).alloc (Nat.le_refl _) o)
  clear hr
  go_enter Tryz.func144, Tryz.ntmps144
  go_wp2_with fail
  refine (HE.out _).mono ?_
  rintro e w2 ⟨r2, rfl, hr2, hb2⟩
  have z2 : r2.size ≤ 2000 := bytes1 hr2 HL.out
  have c1 : ¬ (9223372036854775807 : Nat) < 1 + r2.size := by omega
  have HR := Lib.hid hr2
  have HB := Lib.hid ((HA.out _).trans (hb2.mono (by simp)))
  clear hr2 hb2
  go_wp2_with fail
  go_ret
  exact ⟨_, rfl, by rw [append_data, HR.out]; rfl, HB.out⟩
set_option maxHeartbeats 1000000 in
theorem hasS (r : ByteArray) (hr : r.size ≤ 1000) (w : World) : Calls Tryz.prog 148 #[.agg #[.string r, .string ByteArray.empty, .string ByteArray.empty, .bool false]] w fun e w' => TxtEnd (91 :: (r.data.toList ++ [93])) w e w' := by
  have HA := Lib.hid (fun o => (Below.refl w.heap.size w).alloc (Nat.le_refl _) o)
  go_enter Tryz.func148, Tryz.ntmps148
  go_wp2_with fail
  go_ret
  exact ⟨_, rfl, by simp, HA.out _⟩
set_option maxHeartbeats 1000000 in
theorem attrS (r v o : ByteArray) (f : Bool) (hr : r.size ≤ 1000) (hv : v.size ≤ 1000) (ho : o.size ≤ 2) (hne : o.data.toList ≠ []) (w : World) : Calls Tryz.prog 148 #[.agg #[.string r, .string v, .string o, .bool f]] w fun e w' =>
    TxtEnd (91 :: (r.data.toList ++ (o.data.toList ++ (34 :: (v.data.toList ++ (34 :: (foldT f ++ [93]))))))) w e w' := by
  have HA := Lib.hid (fun o => (Below.refl w.heap.size w).alloc (Nat.le_refl _) o)
  have hne1 : o.toList = [] ↔ False := by rw [ByteArray.toList_eq]; simpa using hne
  have hne2 : (o.toList == []) = false := by rw [ByteArray.toList_eq]; simpa using hne
  rcases f with _ | _
  all_goals
    go_enter Tryz.func148, Tryz.ntmps148
    go_wp2_with fail
    go_ret
    exact ⟨_, rfl, by simp [foldT], HA.out _⟩

/-- The table that Itoa reads is as the library lays it. -/
def TabZ (w : World) : Prop := Lib.TabIs Tryz.prog w "internal/strconv.uint64pow10" .u64 Lib.pow10Tab
theorem TabZ.keep {w w' : World} (h : TabZ w) (hb : ∀ b, b < w.heap.size → w'.heap[b]? = w.heap[b]?) : TabZ w' := by
  have hg : Tryz.prog.globalNamed "internal/strconv.uint64pow10" = some 9 := by kernel_rfl
  unfold TabZ Lib.TabIs World.var? at *
  rw [hg] at h ⊢
  simp only [Option.bind_some] at h ⊢
  have hlt : 9 < w.heap.size := by
    cases hh : w.heap[9]? with
    | none => rw [hh] at h; cases h
    | some o => exact (Array.getElem?_eq_some_iff.1 hh).1
  rw [hb _ hlt]
  exact h
theorem TabZ.below {w w' : World} (h : TabZ w) (hb : Below w.heap.size w w') : TabZ w' := h.keep hb.block
theorem below_grow (w : World) (k : Nat) (os : Array Obj) : Below w.heap.size w (Sort.grow (w.drewN k) os) :=
  ⟨rfl, rfl, rfl, by simp [Sort.grow, World.drewN], fun b hb => by simp [Sort.grow, World.drewN, Array.getElem?_append_left hb]⟩
theorem eq_two : ∀ (p q x y : Bool) (W : World), (Op.equalIn 10000 223 (.agg #[.bool p, .bool q]) (.agg #[.bool x, .bool y])).run Tryz.prog W = .ok (p == x && q == y) W := by
  intro p q x y W
  cases p <;> cases q <;> cases x <;> cases y <;> kernel_rfl
theorem decI_itoa (n : Int) (h1 : -9 ≤ n) (h2 : n ≤ 9) : Lib.itoa n = decI n := by
  have h : ∀ u : Nat, u < 10 → Lib.decDigits u = digits u := fun u hu => by
    rw [Lib.decDigits, dif_pos hu, digits, decN_small _ _ hu]
    have e : ∀ u : Fin 10, UInt8.ofNat (48 + u.val) = 48 + UInt8.ofNat (u.val % 10) := by decide
    rw [e ⟨u, hu⟩]
  unfold Lib.itoa decI
  split
  · rw [h _ (by omega), show n.natAbs = (-n).toNat by omega]
  · rw [h _ (by omega)]
theorem itoa_any (n : Int) (h1 : -9 ≤ n) (h2 : n ≤ 9) (w : World) (hT : TabZ w) : Calls Tryz.prog 92 #[.int .i64 n] w fun e w' => TxtEnd (decI n) w e w' :=
  (Tryz.strconv_Itoa n (by omega) (by omega) w hT).mono fun e w' ⟨he, k, os, hw⟩ => ⟨_, he, by rw [decI_itoa n h1 h2], by rw [hw]; exact below_grow w k os⟩
set_option maxHeartbeats 4000000 in
set_option maxRecDepth 100000 in
theorem nthS (a b : Int) (la ot : Bool) (ha1 : -9 ≤ a) (ha2 : a ≤ 9) (hb1 : -9 ≤ b) (hb2 : b ≤ 9) (w : World) (hT : TabZ w) :
    Calls Tryz.prog 162 #[.agg #[.int .i64 a, .int .i64 b, .bool la, .bool ot]] w fun e w' => TxtEnd (nthT a b la ot) w e w' := by
  have HA := Lib.hid (fun o => (Below.refl w.heap.size w).alloc (Nat.le_refl _) o)
  have HIA := Lib.hid (fun (W : World) (hw : Below w.heap.size w W) => itoa_any a ha1 ha2 W (hT.below hw))
  have HIB := Lib.hid (fun (W : World) (hw : Below w.heap.size w W) => itoa_any b hb1 hb2 W (hT.below hw))
  have hla := decI_len a
  have hlb := decI_len b
  have HLA := Lib.hid hla
  have HLB := Lib.hid hlb
  have hway : (a = 0 ∧ b = 1) ∨ (¬ (a = 0 ∧ b = 1)) ∧ ((a == 0) = false ∨ (a == 0) = true ∧ (b == 1) = false) := by
    by_cases h0 : a = 0
    · by_cases h1 : b = 1
      · exact .inl ⟨h0, h1⟩
      · exact .inr ⟨fun h => h1 h.2, .inr ⟨by simpa using h0, by simpa using h1⟩⟩
    · exact .inr ⟨fun h => h0 h.1, .inl (by simpa using h0)⟩
  clear hla hlb hT ha1 ha2 hb1 hb2
  rcases hway with ⟨rfl, rfl⟩ | ⟨hne, hway⟩
  · clear HIA HIB HLA HLB
    rcases ot with _ | _ <;> rcases la with _ | _
    all_goals
      go_enter Tryz.func162, Tryz.ntmps162
      go_wp2_with fail
      go_ret
      exact ⟨_, rfl, by simp [nthT, firstT, childT], HA.out _⟩
  · have HT := Lib.hid (show nthT a b la ot = 58 :: ([110, 116, 104, 45] ++ (lastT la ++ childT ot)) ++ (40 :: (countT a b ++ [41])) from nthT_ne hne)
    clear hne
    have hbs : b < 0 ∨ (0 ≤ b ∧ ¬ b < 0) := by omega
    rcases hbs with xb | ⟨xb, xb'⟩
    · have HC := Lib.hid (show countT a b = decI a ++ (110 :: decI b) by simp [countT, xb])
      rcases hway with x0 | ⟨x0, x1⟩ <;> rcases ot with _ | _ <;> rcases la with _ | _
      all_goals
        have heq := eq_two
        go_enter Tryz.func162, Tryz.ntmps162
        go_wp2_with fail
        refine (HIB.out _ (HA.out _)).mono ?_
        rintro e w2 ⟨r2, rfl, hr2, hb2⟩
        have z2 : r2.size ≤ 6 := bytes1 hr2 HLB.out
        have k0 : w2.cell? ⟨w.heap.size, 0, none⟩ = some (.int .i64 a) := ((bcell hb2).1 _ 0 (by simp)).trans (by go_simp)
        have k1 : w2.cell? ⟨w.heap.size, 1, none⟩ = some (.int .i64 b) := ((bcell hb2).1 _ 1 (by simp)).trans (by go_simp)
        have hz2 : w.heap.size < w2.heap.size := by have := hb2.size; simp at this; omega
        have c1 : ¬ (9223372036854775807 : Nat) < 1 + r2.size := by omega
        have HB2 := Lib.hid ((HA.out _).trans (hb2.mono (by simp)))
        clear hr2 hb2 heq
        go_wp2_with fail
        refine (HIB.out _ HB2.out).mono ?_
        rintro e w3 ⟨r3, rfl, hr3, hb3⟩
        have z3 : r3.size ≤ 6 := bytes1 hr3 HLB.out
        have m0 : w3.cell? ⟨w.heap.size, 0, none⟩ = some (.int .i64 a) := ((bcell hb3).1 _ 0 hz2).trans k0
        have HB3 := Lib.hid (HB2.out.trans (hb3.mono HB2.out.size))
        have HR3 := Lib.hid hr3
        clear hr3 hb3 k0 k1 c1 hz2
        go_wp2_with fail
        refine (HIA.out _ HB3.out).mono ?_
        rintro e w4 ⟨r4, rfl, hr4, hb4⟩
        have z4 : r4.size ≤ 6 := bytes1 hr4 HLA.out
        have HB4 := Lib.hid (HB3.out.trans (hb4.mono HB3.out.size))
        have HR4 := Lib.hid hr4
        clear hr4 hb4 m0
        go_wp2_with fail
        go_ret
        exact ⟨_, rfl, by rw [HT.out, HC.out]; simp [HR3.out, HR4.out, lastT, childT], HB4.out⟩
    · have HC := Lib.hid (show countT a b = decI a ++ (110 :: 43 :: decI b) by simp [countT, xb'])
      rcases hway with x0 | ⟨x0, x1⟩ <;> rcases ot with _ | _ <;> rcases la with _ | _
      all_goals
        have heq := eq_two
        go_enter Tryz.func162, Tryz.ntmps162
        go_wp2_with fail
        refine (HIB.out _ (HA.out _)).mono ?_
        rintro e w2 ⟨r2, rfl, hr2, hb2⟩
        have z2 : r2.size ≤ 6 := bytes1 hr2 HLB.out
        have k0 : w2.cell? ⟨w.heap.size, 0, none⟩ = some (.int .i64 a) := ((bcell hb2).1 _ 0 (by simp)).trans (by go_simp)
        have k1 : w2.cell? ⟨w.heap.size, 1, none⟩ = some (.int .i64 b) := ((bcell hb2).1 _ 1 (by simp)).trans (by go_simp)
        have c1 : ¬ (9223372036854775807 : Nat) < 1 + r2.size := by omega
        have HB2 := Lib.hid ((HA.out _).trans (hb2.mono (by simp)))
        have HR2 := Lib.hid hr2
        clear hr2 hb2 heq
        go_wp2_with fail
        refine (HIA.out _ HB2.out).mono ?_
        rintro e w4 ⟨r4, rfl, hr4, hb4⟩
        have z4 : r4.size ≤ 6 := bytes1 hr4 HLA.out
        have HB4 := Lib.hid (HB2.out.trans (hb4.mono HB2.out.size))
        have HR4 := Lib.hid hr4
        clear hr4 hb4 k0 k1 c1
        go_wp2_with fail
        go_ret
        exact ⟨_, rfl, by rw [HT.out, HC.out]; simp [HR2.out, HR4.out, lastT, childT], HB4.out⟩
end Go.Proofs.YtoindammaphefaaGreatDoor
