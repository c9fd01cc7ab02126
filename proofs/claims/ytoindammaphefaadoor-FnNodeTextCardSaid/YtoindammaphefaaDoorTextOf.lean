/- The walk of the reference's TextOf: the text of a node, or that of its own children. Conditions: parents ahead of their children, at most 24 nodes, texts of at most 40 bytes. -/
import Derived.Test.YtoindammaphefaaDoorSText
namespace Go.Proofs.YtoindammaphefaaDoor
open Go.RowKit

/-- What is known of a tree that Tree lets through. -/
structure Sane (l : List NodeA) : Prop where
  ord : ordered l
  len : l.length ≤ 24
  dat : ∀ k, k < l.length → kindOf l k = 1 → (datOf l k).length ≤ 40
theorem Sane.data {l : List NodeA} (h : Sane l) {k : Nat} {n : NodeA} (hn : l[k]? = some n) (hk : n.kind = 1) : n.data.size ≤ 40 := by
  have h1 := h.dat k (List.getElem?_eq_some_iff.1 hn).1 (by rw [(getOf hn).2.1]; exact hk)
  rw [(getOf hn).2.2] at h1
  rw [size_of_data rfl]
  exact h1
set_option maxHeartbeats 4000000 in
set_option maxRecDepth 100000 in
theorem ownTextOf_any (v : Value) (l : List NodeA) (w : World) (B i : Nat) (hv : Tre .i64 w B v l) (hS : Sane l) (hi : i < l.length) :
    Calls Tryd.prog 13 #[v, .int .i64 i, .bool true] w fun e w' => ∃ r : ByteArray, e = .returned (.string r) ∧ r.data.toList = ownText l i ∧ w = w' := by
  obtain ⟨A, c, rfl, hcap, hc⟩ := hv
  have HC := Lib.hid hc
  have hs := hS.len
  have HD := Lib.hid (fun k n (h : l[k]? = some n) (h1 : n.kind = 1) => hS.data h h1)
  have HB : ∀ k, k ≤ l.length → (upTo (datOf l) (fun k => parOf l k == i && kindOf l k == 1) k).length ≤ 960 := fun k hk => by
    have h1 := upTo_le (g := datOf l) (p := fun k => parOf l k == i && kindOf l k == 1) hk
    have h2 := ownText_small hS.dat i
    unfold ownText at h2
    omega
  replace HB := Lib.hid HB
  obtain ⟨n, hn⟩ : ∃ n, l[i]? = some n := ⟨_, List.getElem?_eq_getElem hi⟩
  obtain ⟨ad, rfl, hB, h0, h1, h2, h3, h4⟩ := hc i _ hn
  have d1 := cell_add1 _ _ _ h1
  clear hc hS h0 h1 h2 h3 h4 hn
  by_cases hkd : n.kind = 1
  all_goals
    go_enter Tryd.func13, Tryd.ntmps13
    go_wp2_with (fail)
    go_loop [7, 26] (fun v7 v26 => ∃ (k : Nat) (r : ByteArray), v7 = .string r ∧ v26 = .int .i64 k ∧ k ≤ l.length ∧ Hid (r.data.toList = upTo (datOf l) (fun k => parOf l k == i && kindOf l k == 1) k))
      (fun _v7 v26 => l.length - (intOf v26).toNat)
    case atStart => exact ⟨0, _, rfl, rfl, Nat.zero_le _, rfl⟩
    case round =>
      obtain ⟨k, r, rfl, rfl, hk, H⟩ := hrel
      have hr : r.size ≤ 960 := by rw [size_of_data H.out]; exact HB.out k hk
      rcases hl : l[k]? with _ | p
      · have hlt : ¬ ((k : Int) < (l.length : Int)) := by rw [List.getElem?_eq_none_iff] at hl; omega
        have hkl : k = l.length := by rw [List.getElem?_eq_none_iff] at hl; omega
        clear hl
        go_wp2_with (fail)
        go_ret
        exact ⟨r, rfl, by rw [H.out, hkl]; rfl, rfl⟩
      · have hkl : k < l.length := (List.getElem?_eq_some_iff.1 hl).1
        have hlt : (k : Int) < (l.length : Int) := by omega
        obtain ⟨ad2, hA2, hB2, h0, h1, h2, h3, h4⟩ := HC.out k p hl
        obtain rfl : ad = ad2 := by injection hA2
        have e1 := cell_add1 _ _ _ h1
        have e2 := cell_add2 _ _ _ h2
        obtain ⟨g0, g1, g2⟩ := getOf hl
        have hpd := Lib.hid (HD.out k p hl)
        have HU := Lib.hid (upTo_succ (datOf l) (fun k => parOf l k == i && kindOf l k == 1) k)
        rw [g0, g1, g2, ← H.out] at HU
        clear hl h1 h2 h3 h4 hA2 hB2 g0 g1 g2
        by_cases q1 : p.parent = i
        · have b1 : (p.parent != (i : Int)) = false := by simp [q1]
          by_cases q2 : p.kind = 1
          · have HU2 := Lib.hid HU.out
            rw [if_pos (by simp [q1, q2])] at HU2
            have HP := Lib.hid q1
            have hpz := hpd.out q2
            clear HU q1
            go_wp2_with (fail)
            exact ⟨⟨k + 1, _, rfl, by go_num, by omega, Lib.hid (by rw [append_data, HU2.out])⟩, by simp [intOf]; omega⟩
          · have HU2 := Lib.hid HU.out
            rw [if_neg (by simp [q1, q2])] at HU2
            have b2 : (p.kind == 1) = false := by simpa using q2
            clear HU q1 q2
            go_wp2_with (fail)
            exact ⟨⟨k + 1, _, rfl, by go_num, by omega, Lib.hid (by rw [HU2.out, List.append_nil])⟩, by simp [intOf]; omega⟩
        · have b1 : (p.parent != (i : Int)) = true := by simpa using q1
          have HU2 := Lib.hid HU.out
          rw [if_neg (by simp [q1])] at HU2
          clear HU q1
          go_wp2_with (fail)
          exact ⟨⟨k + 1, _, rfl, by go_num, by omega, Lib.hid (by rw [HU2.out, List.append_nil])⟩, by simp [intOf]; omega⟩
set_option maxHeartbeats 4000000 in
set_option maxRecDepth 100000 in
theorem textOf_any (v : Value) (l : List NodeA) (w : World) (B : Nat) (hv : Tre .i64 w B v l) (hS : Sane l) : ∀ (f i : Nat), i < l.length → l.length - i ≤ f →
    Calls Tryd.prog 13 #[v, .int .i64 i, .bool false] w fun e w' => ∃ r : ByteArray, e = .returned (.string r) ∧ r.data.toList = text l i ∧ w = w' := by
  intro f
  induction f with
  | zero => intro i hi hf; omega
  | succ f ih =>
  intro i hi hf
  have IH := Lib.hid ih
  have hv' := hv
  clear ih
  obtain ⟨A, c, rfl, hcap, hc⟩ := hv
  have HC := Lib.hid hc
  have hs := hS.len
  have HD := Lib.hid (fun k n (h : l[k]? = some n) (h1 : n.kind = 1) => hS.data h h1)
  have HO := Lib.hid (fun k hk => hS.ord k hk)
  obtain ⟨n, hn⟩ : ∃ n, l[i]? = some n := ⟨_, List.getElem?_eq_getElem hi⟩
  obtain ⟨ad, rfl, hB, h0, h1, h2, h3, h4⟩ := hc i _ hn
  have d1 := cell_add1 _ _ _ h1
  have d2 := cell_add2 _ _ _ h2
  have HT := Lib.hid (text_eq hS.ord hi)
  rw [(getOf hn).2.1, (getOf hn).2.2] at HT
  by_cases hkd : n.kind = 1
  · rw [if_pos hkd] at HT
    clear hc hS h0 h1 h2 h3 h4 hn
    go_enter Tryd.func13, Tryd.ntmps13
    go_wp2_with (fail)
    go_ret
    exact ⟨_, rfl, HT.out.symm, rfl⟩
  · rw [if_neg hkd] at HT
    have HB : ∀ k, k ≤ l.length → (upTo (text l) (fun k => parOf l k == i) k).length ≤ 960 := fun k hk => by
      have h1 := upTo_le (g := text l) (p := fun k => parOf l k == i) hk
      have h2 := text_small hS.ord hS.dat hi
      rw [HT.out] at h2
      omega
    replace HB := Lib.hid HB
    have HX := Lib.hid (fun k hk => text_eq hS.ord (l := l) (i := k) hk)
    have HZ := Lib.hid (fun k hk => text_small hS.ord hS.dat (i := k) hk)
    clear hc hS h0 h1 h2 h3 h4 hn
    have bkd : (n.kind == 1) = false := by simpa using hkd
    clear hkd
    go_enter Tryd.func13, Tryd.ntmps13
    go_wp2_with (fail)
    go_loop [7, 26] (fun v7 v26 => ∃ (k : Nat) (r : ByteArray), v7 = .string r ∧ v26 = .int .i64 k ∧ k ≤ l.length ∧ Hid (r.data.toList = upTo (text l) (fun k => parOf l k == i) k))
      (fun _v7 v26 => l.length - (intOf v26).toNat)
    case atStart => exact ⟨0, _, rfl, rfl, Nat.zero_le _, rfl⟩
    case round =>
      obtain ⟨k, r, rfl, rfl, hk, H⟩ := hrel
      have hr : r.size ≤ 960 := by rw [size_of_data H.out]; exact HB.out k hk
      rcases hl : l[k]? with _ | p
      · have hlt : ¬ ((k : Int) < (l.length : Int)) := by rw [List.getElem?_eq_none_iff] at hl; omega
        have hkl : k = l.length := by rw [List.getElem?_eq_none_iff] at hl; omega
        clear hl
        go_wp2_with (fail)
        go_ret
        exact ⟨r, rfl, by rw [H.out, hkl, HT.out], rfl⟩
      · have hkl : k < l.length := (List.getElem?_eq_some_iff.1 hl).1
        have hlt : (k : Int) < (l.length : Int) := by omega
        obtain ⟨ad2, hA2, hB2, h0, h1, h2, h3, h4⟩ := HC.out k p hl
        obtain rfl : ad = ad2 := by injection hA2
        have e1 := cell_add1 _ _ _ h1
        have e2 := cell_add2 _ _ _ h2
        obtain ⟨g0, g1, g2⟩ := getOf hl
        have hpd := Lib.hid (HD.out k p hl)
        have HU := Lib.hid (upTo_succ (text l) (fun k => parOf l k == i) k)
        rw [g0, ← H.out] at HU
        have HXk := Lib.hid (HX.out k hkl)
        rw [g1, g2] at HXk
        have HZk := HZ.out k hkl
        have HOk := HO.out k hkl
        rw [g0] at HOk
        clear hl h1 h2 h3 h4 hA2 hB2 g0 g1 g2
        by_cases q1 : p.parent = i
        · have b1 : (p.parent != (i : Int)) = false := by simp [q1]
          by_cases q2 : p.kind = 1
          · have HU2 := Lib.hid HU.out
            rw [if_pos (by simp [q1]), HXk.out, if_pos q2] at HU2
            have HP := Lib.hid q1
            have hpz := hpd.out q2
            clear HU q1
            go_wp2_with (fail)
            exact ⟨⟨k + 1, _, rfl, by go_num, by omega, Lib.hid (by rw [append_data, HU2.out])⟩, by simp [intOf]; omega⟩
          · have HU2 := Lib.hid HU.out
            rw [if_pos (by simp [q1])] at HU2
            have b2 : (p.kind == 1) = false := by simpa using q2
            have hik : i < k := by omega
            have HI := Lib.hid (IH.out k hkl (by omega))
            have HP := Lib.hid q1
            clear HU q1 q2 HOk HXk
            go_wp2_with (fail)
            refine (HI.out).mono ?_
            rintro e w2 ⟨t, rfl, ht, rfl⟩
            have hts : t.size ≤ 960 := by rw [size_of_data ht]; omega
            have HTT := Lib.hid ht
            clear ht
            go_wp2_with (fail)
            exact ⟨⟨k + 1, _, rfl, by go_num, by omega, Lib.hid (by rw [append_data, HU2.out, HTT.out])⟩, by simp [intOf]; omega⟩
        · have b1 : (p.parent != (i : Int)) = true := by simpa using q1
          have HU2 := Lib.hid HU.out
          rw [if_neg (by simp [q1])] at HU2
          clear HU q1
          go_wp2_with (fail)
          exact ⟨⟨k + 1, _, rfl, by go_num, by omega, Lib.hid (by rw [HU2.out, List.append_nil])⟩, by simp [intOf]; omega⟩
end Go.Proofs.YtoindammaphefaaDoor
