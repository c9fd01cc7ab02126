/- The walks of zzFits1 to zzFits4: they answer whether something is longer than zzMost, and turn nothing that is there. -/
import Derived.Test.YtoindammaphefaaDoorNTree
namespace Go.Proofs.YtoindammaphefaaDoor
open Go.RowKit

set_option maxHeartbeats 1000000 in
theorem fits4_any (a b : ByteArray) (w : World) (ha : a.size ≤ 140737488351232) (hb : b.size ≤ 140737488351232) :
    Calls Tryd.prog 38 #[.agg #[.string a, .string b]] w fun e w' => e = .returned (.bool (decide (a.size ≤ 2147483647 ∧ b.size ≤ 2147483647))) ∧ Below w.heap.size w w' := by
  by_cases z1 : 2147483647 < (a.size : Int)
  · go_enter Tryd.func38, Tryd.ntmps38
    go_wp2_with (fail)
    go_ret
    exact ⟨ret_bool (by simp; omega), (Below.refl _ _).alloc (Nat.le_refl _) _⟩
  by_cases z2 : 2147483647 < (b.size : Int)
  · go_enter Tryd.func38, Tryd.ntmps38
    go_wp2_with (fail)
    go_ret
    exact ⟨ret_bool (by simp; omega), (Below.refl _ _).alloc (Nat.le_refl _) _⟩
  · go_enter Tryd.func38, Tryd.ntmps38
    go_wp2_with (fail)
    go_ret
    exact ⟨ret_bool (by simp; omega), (Below.refl _ _).alloc (Nat.le_refl _) _⟩

def fitsA (l : List (ByteArray × ByteArray)) : Prop := l.length ≤ 2147483647 ∧ ∀ p ∈ l, p.1.size ≤ 2147483647 ∧ p.2.size ≤ 2147483647
set_option maxHeartbeats 1000000 in
theorem fits3_any (v : Value) (l : List (ByteArray × ByteArray)) (w : World) (hv : Att w w.heap.size v l) (hs : smallA l) :
    Calls Tryd.prog 30 #[v] w fun e w' => BoolIf (fitsA l) w e w' := by
  obtain ⟨A, c, rfl, _hcap, hc⟩ := hv
  have hlen := hs.1
  by_cases z1 : 2147483647 < (l.length : Int)
  · go_enter Tryd.func30, Tryd.ntmps30
    go_wp2_with (fail)
    go_ret
    exact ⟨false, rfl, Below.refl _ _, by simp⟩
  have HC := Lib.hid hc
  have HS := Lib.hid hs.2
  clear hc hs
  go_enter Tryd.func30, Tryd.ntmps30
  go_wp2_with (fail)
  go_loopw [10] (fun v10 wr' => ∃ k : Nat, v10 = .int .i64 k ∧ k ≤ l.length ∧ Below w.heap.size w wr' ∧ Hid (∀ j p, j < k → l[j]? = some p → p.1.size ≤ 2147483647 ∧ p.2.size ≤ 2147483647))
    (fun v10 _wr => l.length - (intOf v10).toNat)
  case atStart => exact ⟨0, rfl, Nat.zero_le _, Below.refl _ _, fun j p hj => by omega⟩
  case round =>
    obtain ⟨k, rfl, hk, hb, H⟩ := hrel
    rcases hl : l[k]? with _ | p
    · have hlt : ¬ ((k : Int) < (l.length : Int)) := by rw [List.getElem?_eq_none_iff] at hl; omega
      have hkl : k = l.length := by rw [List.getElem?_eq_none_iff] at hl; omega
      clear hl
      go_wp2_with (fail)
      go_ret
      exact ⟨true, rfl, hb, fun _ => ⟨by omega, fun p hp => by
        obtain ⟨j, hj, hjp⟩ := List.mem_iff_getElem.1 hp
        exact H.out j p (by omega) (by rw [List.getElem?_eq_getElem hj, hjp])⟩⟩
    · have hkl : k < l.length := (List.getElem?_eq_some_iff.1 hl).1
      have hlt : (k : Int) < (l.length : Int) := by omega
      obtain ⟨ad, rfl, hB, h0, h1⟩ := HC.out k p hl
      have hm : p ∈ l := List.mem_of_getElem? hl
      have hp := HS.out p hm
      have d0 := (hb.cell (by rw [add_lt]; exact hB)).trans h0
      have d1 := cell_add1 _ _ _ ((hb.cell (by rw [add_lt]; exact hB)).trans h1)
      have HL := Lib.hid hl
      have HP := Lib.hid hp
      clear hl hm h0 h1 hp
      go_wp2_with (fail)
      refine (fits4_any _ _ _ HP.out.1 HP.out.2).mono ?_
      rintro e w2 ⟨rfl, hb2⟩
      have hb3 := (hb.alloc hb.size (.cells #[.string p.1, .string p.2] 50)).trans (hb2.mono (by have := hb.size; simp; omega))
      by_cases hf : p.1.size ≤ 2147483647 ∧ p.2.size ≤ 2147483647
      · rw [decide_eq_true hf]
        have HF := Lib.hid hf
        clear hf hb2
        go_wp2_with (fail)
        refine ⟨⟨k + 1, by go_num, by omega, hb3, fun j q hj hq => ?_⟩, by simp [intOf]; omega⟩
        by_cases hjk : j < k
        · exact H.out j q hjk hq
        · have : j = k := by omega
          subst this
          rw [HL.out] at hq
          injection hq with hq
          subst hq
          exact HF.out
      · rw [decide_eq_false hf]
        clear hf hb2
        go_wp2_with (fail)
        go_ret
        exact ⟨false, rfl, hb3, by simp⟩

def fitsN (n : NodeA) : Prop := n.data.size ≤ 2147483647 ∧ fitsA n.attrs
set_option maxHeartbeats 1000000 in
theorem fits2_any (n : NodeA) (v : Value) (w : World) (hv : Att w w.heap.size v n.attrs) (hd : n.data.size ≤ 140737488351232) (hs : smallA n.attrs) :
    Calls Tryd.prog 22 #[.agg #[.int .i64 n.parent, .int .i64 n.kind, .string n.data, v]] w fun e w' => BoolIf (fitsN n) w e w' := by
  by_cases z1 : 2147483647 < (n.data.size : Int)
  · go_enter Tryd.func22, Tryd.ntmps22
    go_wp2_with (fail)
    go_ret
    exact ⟨false, rfl, (Below.refl _ _).alloc (Nat.le_refl _) _, by simp⟩
  have HA := Lib.hid hv
  go_enter Tryd.func22, Tryd.ntmps22
  go_wp2_with (fail)
  refine (fits3_any v n.attrs _ ((HA.out.below ((Below.refl _ _).alloc (Nat.le_refl _) _)).more (by simp)) hs).mono ?_
  rintro e w2 ⟨b, rfl, hb2, hi⟩
  have hb3 := ((Below.refl w.heap.size w).alloc (Nat.le_refl _) _).trans (hb2.mono (by simp))
  clear hb2
  rcases b
  · clear hi
    go_wp2_with (fail)
    go_ret
    exact ⟨false, rfl, hb3, by simp⟩
  · have HI := Lib.hid (hi rfl)
    clear hi
    go_wp2_with (fail)
    go_ret
    exact ⟨true, rfl, hb3, fun _ => ⟨by omega, HI.out⟩⟩

def fitsT (l : List NodeA) : Prop := l.length ≤ 2147483647 ∧ ∀ n ∈ l, fitsN n
set_option maxHeartbeats 1000000 in
theorem fits1_any (v : Value) (l : List NodeA) (w : World) (hv : Tre .i64 w w.heap.size v l) (hs : small l) :
    Calls Tryd.prog 9 #[v] w fun e w' => BoolIf (fitsT l) w e w' := by
  obtain ⟨A, c, rfl, _hcap, hc⟩ := hv
  have hlen := hs.1
  by_cases z1 : 2147483647 < (l.length : Int)
  · go_enter Tryd.func9, Tryd.ntmps9
    go_wp2_with (fail)
    go_ret
    exact ⟨false, rfl, Below.refl _ _, by simp⟩
  have HC := Lib.hid hc
  have HS := Lib.hid hs.2
  clear hc hs
  go_enter Tryd.func9, Tryd.ntmps9
  go_wp2_with (fail)
  go_loopw [10] (fun v10 wr' => ∃ k : Nat, v10 = .int .i64 k ∧ k ≤ l.length ∧ Below w.heap.size w wr' ∧ Hid (∀ j p, j < k → l[j]? = some p → fitsN p))
    (fun v10 _wr => l.length - (intOf v10).toNat)
  case atStart => exact ⟨0, rfl, Nat.zero_le _, Below.refl _ _, fun j p hj => by omega⟩
  case round =>
    obtain ⟨k, rfl, hk, hb, H⟩ := hrel
    rcases hl : l[k]? with _ | p
    · have hlt : ¬ ((k : Int) < (l.length : Int)) := by rw [List.getElem?_eq_none_iff] at hl; omega
      have hkl : k = l.length := by rw [List.getElem?_eq_none_iff] at hl; omega
      clear hl
      go_wp2_with (fail)
      go_ret
      exact ⟨true, rfl, hb, fun _ => ⟨by omega, fun p hp => by
        obtain ⟨j, hj, hjp⟩ := List.mem_iff_getElem.1 hp
        exact H.out j p (by omega) (by rw [List.getElem?_eq_getElem hj, hjp])⟩⟩
    · have hkl : k < l.length := (List.getElem?_eq_some_iff.1 hl).1
      have hlt : (k : Int) < (l.length : Int) := by omega
      obtain ⟨ad, rfl, hB, h0, h1, h2, h3, h4⟩ := HC.out k p hl
      have hm : p ∈ l := List.mem_of_getElem? hl
      have hp := HS.out p hm
      have d0 := (hb.cell (by rw [add_lt]; exact hB)).trans h0
      have d1 := cell_add1 _ _ _ ((hb.cell (by rw [add_lt]; exact hB)).trans h1)
      have d2 := cell_add2 _ _ _ ((hb.cell (by rw [add_lt]; exact hB)).trans h2)
      have d3 := cell_add3 _ _ _ ((hb.cell (by rw [add_lt]; exact hB)).trans h3)
      obtain ⟨A', c', hav⟩ : ∃ A' c', p.av = .slice A' p.attrs.length c' := by obtain ⟨A', c', hav, _⟩ := h4; exact ⟨A', c', hav⟩
      rw [hav] at d3 h4
      have hb1 := hb.alloc hb.size (.cells #[.int .i64 p.parent, .int .i64 p.kind, .string p.data, .slice A' p.attrs.length c'] 47)
      have HA := Lib.hid ((h4.below hb1).more hb1.size)
      have HL := Lib.hid hl
      have HP := Lib.hid hp
      clear hl hm h0 h1 h2 h3 h4 hp hav
      go_wp2_with (fail)
      refine (fits2_any p _ _ HA.out HP.out.1 HP.out.2).mono ?_
      rintro e w2 ⟨b, rfl, hb2, hi⟩
      have hb3 := hb1.trans (hb2.mono hb1.size)
      clear hb2 hb1
      rcases b
      · clear hi
        go_wp2_with (fail)
        go_ret
        exact ⟨false, rfl, hb3, by simp⟩
      · have HI := Lib.hid (hi rfl)
        clear hi
        go_wp2_with (fail)
        refine ⟨⟨k + 1, by go_num, by omega, hb3, fun j q hj hq => ?_⟩, by simp [intOf]; omega⟩
        by_cases hjk : j < k
        · exact H.out j q hjk hq
        · have : j = k := by omega
          subst this
          rw [HL.out] at hq
          injection hq with hq
          subst hq
          exact HI.out
end Go.Proofs.YtoindammaphefaaDoor
