/- The walk of laws.FnNodeText: it returns true for every tree and number. No conditions beside the sizes that any text has. -/
import Derived.Test.YtoindammaphefaaDoorZNText
import Derived.Test.YtoindammaphefaaDoorNodes
import Derived.Test.YtoindammaphefaaDoorFits
import Derived.Test.YtoindammaphefaaDoorSTree
namespace Go.Proofs.YtoindammaphefaaDoor
open Go.RowKit

theorem treeOK.fine {l : List NodeA} (h : treeOK l) : Fine l := by
  obtain ⟨h1, h2, h3⟩ := h
  have at_ : ∀ k, k < l.length → ∃ n, l[k]? = some n ∧ parOf l k = n.parent ∧ kindOf l k = n.kind ∧ datOf l k = n.data.data.toList ∧ nodeOK l k n := fun k hk => by
    have hn := List.getElem?_eq_getElem hk
    obtain ⟨a, b, c⟩ := getOf hn
    exact ⟨_, hn, a, b, c, h3 k _ hn⟩
  refine ⟨⟨fun k hk => ?_, h2, fun k hk hk1 => ?_⟩, fun k hk => ?_, fun k hk h0 => ?_, fun k h0 hk3 j hj hjk => ?_⟩
  · obtain ⟨n, hn, a, b, c, ok⟩ := at_ k hk
    by_cases h0 : k = 0
    · rw [a, (ok.1 h0).1]; omega
    · rw [a]; exact (ok.2 h0).2.1
  · obtain ⟨n, hn, a, b, c, ok⟩ := at_ k hk
    by_cases h0 : k = 0
    · have := (ok.1 h0).2; omega
    · have := (ok.2 h0).2.2.2.2
      rw [c, ← size_of_data rfl]
      exact this
  · obtain ⟨n, hn, a, b, c, ok⟩ := at_ k hk
    rw [a]
    constructor
    · intro hlt
      by_cases h0 : k = 0
      · exact h0
      · have := (ok.2 h0).1; omega
    · intro h0
      rw [(ok.1 h0).1]; omega
  · obtain ⟨n, hn, a, b, c, ok⟩ := at_ k hk
    rw [b]; exact (ok.2 h0).2.2.2.1
  · obtain ⟨n, hn, a, b, c, ok⟩ := at_ j hj
    rw [a] at hjk
    by_cases hj0 : j = 0
    · have := (ok.1 hj0).1; omega
    · have h4 := (ok.2 hj0).2.1
      obtain ⟨m, hm, a2, b2, _⟩ := at_ k (by omega)
      rcases (ok.2 hj0).2.2.1 m (by rw [hjk]; simpa using hm) with h5 | h5
      · exact hk3 (by rw [b2]; exact h5)
      · have := h5.1; omega
theorem fitsT.attrs {l : List NodeA} (h : fitsT l) : ∀ n ∈ l, n.attrs.length ≤ 2147483647 := fun n hn => (h.2 n hn).2.1
theorem core_mem {l l' : List NodeA} (h : l'.map core = l.map core) {P : Int → Int → ByteArray → List (ByteArray × ByteArray) → Prop} (hp : ∀ n ∈ l, P n.parent n.kind n.data n.attrs) : ∀ n ∈ l', P n.parent n.kind n.data n.attrs := by
  intro n hn
  have h1 : core n ∈ l.map core := by rw [← h]; exact List.mem_map_of_mem hn
  obtain ⟨m, hm, he⟩ := List.mem_map.1 h1
  simp only [core, Prod.mk.injEq] at he
  obtain ⟨e1, e2, e3, e4⟩ := he
  rw [← e1, ← e2, ← e3, ← e4]
  exact hp m hm
theorem kinds_le {l : List NodeA} (h : treeOK l) : ∀ n ∈ l, 1 ≤ n.kind ∧ n.kind ≤ 4 := by
  intro n hn
  obtain ⟨k, hk, e⟩ := List.mem_iff_getElem.1 hn
  have ok := h.2.2 k n (by rw [List.getElem?_eq_getElem hk, e])
  by_cases h0 : k = 0
  · have := (ok.1 h0).2; omega
  · have := (ok.2 h0).2.2.2.1; omega

theorem small_core {l l' : List NodeA} (h : l'.map core = l.map core) (hs : small l) : small l' := by
  refine ⟨?_, ?_⟩
  · have h1 := core_len h
    have h2 := hs.1
    omega
  · exact core_mem (P := fun _ _ d a => d.size ≤ 140737488351232 ∧ smallA a) h hs.2
set_option maxHeartbeats 4000000 in
set_option maxRecDepth 100000 in
theorem lawNodeText (v : Value) (l : List NodeA) (i : Int) (w : World) (hv : Tre .i64 w w.heap.size v l) (hs : small l) :
    Calls Tryd.prog 3 #[v, .int .i64 i] w fun e w' => e = .returned (.bool true) ∧ Below w.heap.size w w' := by
  have HF := Lib.hid (fits1_any v l w hv hs)
  have HV := Lib.hid hv
  have HS := Lib.hid hs
  clear hv hs
  go_enter Tryd.func3, Tryd.ntmps3
  go_wp2_with fail
  refine HF.out.mono ?_
  rintro e w1 ⟨bo, rfl, hb1, hfit⟩
  rcases bo
  · clear hfit
    go_wp2_with fail
    go_ret
    exact ⟨rfl, hb1⟩
  have hfit := hfit rfl
  have hv1 := (HV.out.below hb1).more hb1.size
  have HN := Lib.hid (nodes_any v l w1 hv1 hfit.1 hfit.attrs)
  have HFT := Lib.hid hfit
  clear hfit hv1
  go_wp2_with fail
  refine HN.out.mono ?_
  rintro e w2 ⟨v2, l2, rfl, hown, hcore, hb2⟩
  have hb12 := hb1.trans (hb2.mono hb1.size)
  have ht2 := hown.tre
  have hsm : small l2 := small_core hcore HS.out
  have HT := Lib.hid (tree_any v2 l2 w2 ht2 hsm)
  have HT2 := Lib.hid ht2
  have HCore := Lib.hid hcore
  obtain ⟨A2, c2, rfl, hcap2, hc2⟩ := ht2
  have HC2 := Lib.hid hc2
  clear hown hsm hcore hc2 hb2
  go_wp2_with fail
  refine HT.out.mono ?_
  rintro e w3 ⟨bo, rfl, hb3, hok⟩
  have hb13 := hb12.trans (hb3.mono hb12.size)
  rcases bo
  · clear hok
    go_wp2_with fail
    go_ret
    exact ⟨rfl, hb13⟩
  have hok := hok rfl
  by_cases q1 : i < 0
  · clear hok
    go_wp2_with fail
    go_ret
    exact ⟨rfl, hb13⟩
  by_cases q2 : (l2.length : Int) ≤ i
  · clear hok
    go_wp2_with fail
    go_ret
    exact ⟨rfl, hb13⟩
  obtain ⟨k, rfl⟩ : ∃ k : Nat, i = k := ⟨i.toNat, by omega⟩
  obtain ⟨n, hn⟩ : ∃ n, l2[k]? = some n := ⟨_, List.getElem?_eq_getElem (by omega)⟩
  obtain ⟨ad, rfl, hB, h0, h1, _⟩ := HC2.out k n hn
  have d1 := cell_add1 _ _ _ ((hb3.cell (by rw [add_lt]; exact hB)).trans h1)
  have hF2 := hok.fine
  have hF := core_fine HCore.out.symm hF2
  have hkinds : ∀ n ∈ l, n.attrs.length ≤ 2147483647 ∧ 1 ≤ n.kind ∧ n.kind ≤ 4 := fun n hn => ⟨HFT.out.attrs n hn, core_mem (P := fun _ kd _ _ => 1 ≤ kd ∧ kd ≤ 4) HCore.out.symm (kinds_le hok) n hn⟩
  have hroot := hok.2.2 k n hn
  clear h0 h1
  by_cases q3 : n.kind = 3 ∨ n.kind = 1
  · have hk0 : k ≠ 0 := fun e => by
      subst e
      have h2 := (hroot.1 rfl).2
      rcases q3 with h | h <;> omega
    have hi2 : k < l2.length := by omega
    have hi : k < l.length := by rw [← core_len HCore.out]; exact hi2
    have H1 := Lib.hid (nodeTextI_any v l w3 k ((HV.out.below hb13).more hb13.size) hF hkinds hi hk0)
    have H2 := Lib.hid (fun w (hb : Below w2.heap.size w2 w) => textOf_any _ l2 w w2.heap.size (HT2.out.below hb) hF2.toSane l2.length k hi2 (by omega))
    have H3 := Lib.hid (fun w (h : Tre .i64 w w.heap.size v l) => ownTextI_any v l w k h hF hkinds hi)
    have H4 := Lib.hid (fun w (hb : Below w2.heap.size w2 w) => ownTextOf_any _ l2 w w2.heap.size k (HT2.out.below hb) hF2.toSane hi2)
    have HE1 := Lib.hid (core_text HCore.out k)
    have HE2 := Lib.hid (core_own HCore.out k)
    have HK := Lib.hid (⟨hi2, hk0⟩ : _ ∧ _)
    clear hok hF2 hF hkinds hroot hn
    rcases q3 with h | h
    all_goals
      rw [h] at d1
      go_wp2_with fail
      refine H1.out.mono ?_
      rintro e w4 ⟨r1, rfl, hr1, hb4⟩
      have hb24 := hb3.trans (hb4.mono hb3.size)
      have hb14 := hb13.trans (hb4.mono hb13.size)
      have HR1 := Lib.hid hr1
      clear hr1
      go_wp2_with fail
      refine (H2.out _ hb24).mono ?_
      rintro e w5 ⟨r2, rfl, hr2, rfl⟩
      obtain rfl : r1 = r2 := eq_of_data (by rw [HR1.out, hr2, HE1.out])
      clear hr2
      go_wp2_with fail
      refine (H3.out _ ((HV.out.below hb14).more hb14.size)).mono ?_
      rintro e w6 ⟨r3, rfl, hr3, hb6⟩
      have hb26 := hb24.trans (hb6.mono hb24.size)
      have hb16 := hb14.trans (hb6.mono hb14.size)
      have HR3 := Lib.hid hr3
      clear hr3
      go_wp2_with fail
      refine (H4.out _ hb26).mono ?_
      rintro e w7 ⟨r4, rfl, hr4, rfl⟩
      obtain rfl : r3 = r4 := eq_of_data (by rw [HR3.out, hr4, HE2.out])
      clear hr4
      go_wp2_with fail
      go_ret
      exact ⟨rfl, hb16⟩
  · have b3 : (n.kind != 3) = true := by simp; omega
    have b1 : (n.kind != 1) = true := by simp; omega
    clear hok hF2 hF hkinds hroot q3 hn
    go_wp2_with fail
    go_ret
    exact ⟨rfl, hb13⟩
end Go.Proofs.YtoindammaphefaaDoor
