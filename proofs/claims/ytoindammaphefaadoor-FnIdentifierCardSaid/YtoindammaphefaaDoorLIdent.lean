/- The walk of laws.FnIdentifier: it returns true for every two texts. No conditions beside the size that any text has. -/
import Derived.Test.YtoindammaphefaaDoorZZIdent
import Derived.Test.YtoindammaphefaaDoorSName
namespace Go.Proofs.YtoindammaphefaaDoor
open Go.RowKit

/-- A name that is written as it is. -/
def plainName (l : List UInt8) : List (Bool × UInt8) := l.map fun c => (false, c)
theorem wrt_plainName (l : List UInt8) : wrt (plainName l) = l := by
  induction l with
  | nil => rfl
  | cons c l ih => simp [plainName, wrt] at ih ⊢; exact ih
theorem dec_plainName (l : List UInt8) : dec (plainName l) = l := by simp [plainName, dec, Function.comp_def]
theorem good_all {k : Nat} {l : List UInt8} (h : goodFrom k l = true) : ∀ c ∈ l, nameCharB (c.toNat : Int) = true := by
  induction l generalizing k with
  | nil => intro c hc; cases hc
  | cons x l ih =>
    simp only [goodFrom, Bool.and_eq_true] at h
    intro c hc
    rcases List.mem_cons.1 hc with rfl | hc
    · have := h.1; simp [okAt] at this; simp [nameCharB]; omega
    · exact ih h.2 c hc
theorem nameOK_items {l : List UInt8} (h : nameOK l = true) : okItems (plainName l) ∧ plainName l ≠ [] ∧ starts (plainName l) ∧ l.length ≤ 12 := by
  simp only [nameOK, Bool.and_eq_true, decide_eq_true_eq] at h
  obtain ⟨h1, h2, h3⟩ := h
  refine ⟨?_, by simp [plainName, h2], ?_, h3⟩
  · intro x hx
    simp only [plainName, List.mem_map] at hx
    obtain ⟨c, hc, rfl⟩ := hx
    exact ⟨fun e => (by cases e), fun _ => good_all h1 c hc⟩
  · intro e c r he
    cases l with
    | nil => cases he
    | cons x l =>
      simp only [plainName, List.map_cons, List.cons.injEq, Prod.mk.injEq] at he
      obtain ⟨⟨_, rfl⟩, _⟩ := he
      simp only [goodFrom, Bool.and_eq_true] at h1
      have := h1.1
      simp [okAt] at this
      right; simp [nameStartB]; omega
set_option maxHeartbeats 1000000 in
set_option maxRecDepth 100000 in
theorem lawIdentifier (s b : ByteArray) (w : World) (hs : s.size ≤ 140737488351232) (hb : b.size ≤ 140737488351232) :
    Calls Tryd.prog 5 #[.string s, .string b] w fun e w' => e = .returned (.bool true) ∧ Below w.heap.size w w' := by
  by_cases z1 : 2147483647 < (s.size : Int)
  · go_enter Tryd.func5, Tryd.ntmps5
    go_wp2_with (fail)
    go_ret
    exact ⟨rfl, Below.refl _ _⟩
  by_cases z2 : 2147483647 < (b.size : Int)
  · go_enter Tryd.func5, Tryd.ntmps5
    go_wp2_with (fail)
    go_ret
    exact ⟨rfl, Below.refl _ _⟩
  rcases hn : nameOK s.data.toList
  · go_enter Tryd.func5, Tryd.ntmps5
    go_wp2_with (go_at_call 16; refine (name_any s _ hs).mono ?_; rw [hn]; rintro e w' ⟨rfl, rfl⟩)
    go_ret
    exact ⟨rfl, Below.refl _ _⟩
  by_cases z3 : 40 < (b.size : Int)
  · go_enter Tryd.func5, Tryd.ntmps5
    go_wp2_with (go_at_call 16; refine (name_any s _ hs).mono ?_; rw [hn]; rintro e w' ⟨rfl, rfl⟩)
    go_ret
    exact ⟨rfl, Below.refl _ _⟩
  obtain ⟨hok, hne, hst2, hlen⟩ := nameOK_items hn
  have hsz : s.size = s.data.toList.length := size_of_data rfl
  have fin : stops b.data.toList → Calls Tryd.prog 17 #[.string (s ++ b)] w fun e w' => FrontEndOk (dec (plainName s.data.toList)) (wrt (plainName s.data.toList)).length w e w' := fun hst =>
    identifier_any (s ++ b) (plainName s.data.toList) b.data.toList w (by rw [ByteArray.size_append]; omega) (by rw [append_data, wrt_plainName]) hok hst hne hst2
  rw [dec_plainName, wrt_plainName, ← hsz] at fin
  have hs12 : s.size ≤ 12 := by omega
  clear hok hne hst2 hlen hsz
  rcases hbl : b.data.toList with _ | ⟨c, l⟩
  · have hb0 : b.size = 0 := by rw [size_of_data hbl]; rfl
    have HF := Lib.hid (fin (by rw [hbl]; intro c h; cases h))
    clear fin hbl
    go_enter Tryd.func5, Tryd.ntmps5
    go_wp2_with (first
      | (go_at_call 16; refine (name_any s _ hs).mono ?_; rw [hn]; rintro e w' ⟨rfl, rfl⟩)
      | (go_at_call 17; refine HF.out.mono ?_; rintro e w2 ⟨r, rfl, hr, hb⟩
         obtain rfl := eq_of_data hr))
    go_ret
    exact ⟨rfl, hb⟩
  · have hbp : 0 < b.size := by rw [size_of_data hbl]; simp
    have hbp' : (0 : Int) < (b.size : Int) := by omega
    have hb0 : b[0] = c := drop_get (k := 0) (by rw [List.drop_zero]; exact hbl) hbp
    by_cases hc : (c.toNat : Int) = 32 ∨ (c.toNat : Int) = 46 ∨ (c.toNat : Int) = 41 ∨ (c.toNat : Int) = 62
    · have HF := Lib.hid (fin (by
        rw [hbl]; intro d hd
        simp at hd; subst hd
        exact ⟨by simp [nameCharB]; omega, fun e => by subst e; revert hc; decide⟩))
      clear fin hbl
      rcases hc with h | h | h | h
      · have b1 : ((c.toNat : Int) != 32) = false := by simp [h]
        clear h
        go_enter Tryd.func5, Tryd.ntmps5
        go_wp2_with (first
        | (go_at_call 16; refine (name_any s _ hs).mono ?_; rw [hn]; rintro e w' ⟨rfl, rfl⟩)
        | (go_at_call 17; refine HF.out.mono ?_; rintro e w2 ⟨r, rfl, hr, hb⟩
           obtain rfl := eq_of_data hr))
        go_ret
        exact ⟨rfl, hb⟩
      · have b1 : ((c.toNat : Int) != 32) = true := by simp [h]
        have b2 : ((c.toNat : Int) != 46) = false := by simp [h]
        clear h
        go_enter Tryd.func5, Tryd.ntmps5
        go_wp2_with (first
        | (go_at_call 16; refine (name_any s _ hs).mono ?_; rw [hn]; rintro e w' ⟨rfl, rfl⟩)
        | (go_at_call 17; refine HF.out.mono ?_; rintro e w2 ⟨r, rfl, hr, hb⟩
           obtain rfl := eq_of_data hr))
        go_ret
        exact ⟨rfl, hb⟩
      · have b1 : ((c.toNat : Int) != 32) = true := by simp [h]
        have b2 : ((c.toNat : Int) != 46) = true := by simp [h]
        have b3 : ((c.toNat : Int) != 41) = false := by simp [h]
        clear h
        go_enter Tryd.func5, Tryd.ntmps5
        go_wp2_with (first
        | (go_at_call 16; refine (name_any s _ hs).mono ?_; rw [hn]; rintro e w' ⟨rfl, rfl⟩)
        | (go_at_call 17; refine HF.out.mono ?_; rintro e w2 ⟨r, rfl, hr, hb⟩
           obtain rfl := eq_of_data hr))
        go_ret
        exact ⟨rfl, hb⟩
      · have b1 : ((c.toNat : Int) != 32) = true := by simp [h]
        have b2 : ((c.toNat : Int) != 46) = true := by simp [h]
        have b3 : ((c.toNat : Int) != 41) = true := by simp [h]
        have b4 : ((c.toNat : Int) != 62) = false := by simp [h]
        clear h
        go_enter Tryd.func5, Tryd.ntmps5
        go_wp2_with (first
        | (go_at_call 16; refine (name_any s _ hs).mono ?_; rw [hn]; rintro e w' ⟨rfl, rfl⟩)
        | (go_at_call 17; refine HF.out.mono ?_; rintro e w2 ⟨r, rfl, hr, hb⟩
           obtain rfl := eq_of_data hr))
        go_ret
        exact ⟨rfl, hb⟩
    · have b1 : ((c.toNat : Int) != 32) = true := by simp; omega
      have b2 : ((c.toNat : Int) != 46) = true := by simp; omega
      have b3 : ((c.toNat : Int) != 41) = true := by simp; omega
      have b4 : ((c.toNat : Int) != 62) = true := by simp; omega
      clear fin hbl hc
      go_enter Tryd.func5, Tryd.ntmps5
      go_wp2_with (go_at_call 16; refine (name_any s _ hs).mono ?_; rw [hn]; rintro e w' ⟨rfl, rfl⟩)
      go_ret
      exact ⟨rfl, Below.refl _ _⟩
end Go.Proofs.YtoindammaphefaaDoor
