/- Names of small letters, figures and dashes, written as they are or with escapes, are names to the parser. -/
import Derived.Test.YtoindammaphefaaGreatDoorTxt
import Derived.Test.YtoindammaphefaaGreatDoorIdent
import Derived.Test.YtoindammaphefaaGreatDoorLower
namespace Go.Proofs.YtoindammaphefaaGreatDoor
open Go.RowKit

theorem good_all {k : Nat} {l : List UInt8} (h : goodFrom k l = true) : ∀ c ∈ l, nameCharB (c.toNat : Int) = true ∧ 45 ≤ (c.toNat : Int) ∧ (c.toNat : Int) ≤ 122 ∧ ¬ (65 ≤ (c.toNat : Int) ∧ (c.toNat : Int) ≤ 90) := by
  induction l generalizing k with
  | nil => intro c hc; cases hc
  | cons x l ih =>
    simp only [goodFrom, Bool.and_eq_true] at h
    intro c hc
    rcases List.mem_cons.1 hc with rfl | hc
    · have := h.1; simp [okAt] at this; simp [nameCharB]; omega
    · exact ih h.2 c hc
theorem esc_item {c : UInt8} (h1 : 45 ≤ (c.toNat : Int)) (h2 : (c.toNat : Int) ≤ 122) : okItem (specB c, c) := by
  have h3 : ∀ n : Fin 256, 45 ≤ n.val ∧ n.val ≤ 122 → (specB (UInt8.ofNat n.val) = true → hexB (n.val : Int) = false) ∧ (specB (UInt8.ofNat n.val) = false → nameCharB (n.val : Int) = true) := by decide +kernel
  have h4 := h3 ⟨c.toNat, UInt8.toNat_lt c⟩ (by exact ⟨by simp; omega, by simp; omega⟩)
  simp at h4
  refine ⟨fun e => ⟨h4.1 e, ?_, ?_, ?_⟩, fun e => h4.2 e⟩ <;> (simp; omega)
structure GoodName (its : List (Bool × UInt8)) (l : List UInt8) : Prop where
  ok : okItems its
  ne : its ≠ []
  st : starts its
  dec : dec its = l
  cap : noCap l
theorem goodName (m : Bool) {l : List UInt8} (h : goodFrom 0 l = true) (hne : l ≠ []) : GoodName (nameItems m l) l := by
  have ha := good_all h
  refine ⟨?_, ?_, ?_, dec_name m l, fun c hc => (ha c hc).2.2.2⟩
  · intro x hx
    cases m
    · simp only [nameItems, plainItems_, Bool.false_eq_true, if_false, List.mem_map] at hx
      obtain ⟨c, hc, rfl⟩ := hx
      exact ⟨fun e => (by cases e), fun _ => (ha c hc).1⟩
    · simp only [nameItems, escItems, if_true, List.mem_map] at hx
      obtain ⟨c, hc, rfl⟩ := hx
      exact esc_item (ha c hc).2.1 (ha c hc).2.2.1
  · cases m <;> simp [nameItems, plainItems_, escItems, hne]
  · intro e c r he
    cases l with
    | nil => exact absurd rfl hne
    | cons x l =>
      simp only [goodFrom, Bool.and_eq_true] at h
      have h1 := h.1
      have hx : c = x := by
        cases m
        · simp only [nameItems, plainItems_, Bool.false_eq_true, if_false, List.map_cons, List.cons.injEq, Prod.mk.injEq] at he
          exact he.1.2.symm
        · simp only [nameItems, escItems, if_true, List.map_cons, List.cons.injEq, Prod.mk.injEq] at he
          exact he.1.2.symm
      subst hx
      simp [okAt] at h1
      right; simp [nameStartB]; omega
theorem nameOK_good {l : List UInt8} (h : nameOK l = true) : goodFrom 0 l = true ∧ l ≠ [] := by
  simp only [nameOK, Bool.and_eq_true, decide_eq_true_eq] at h
  exact ⟨h.1, h.2.1⟩
theorem wrt_name (l : List UInt8) : wrt (nameItems false l) = l := by simp [nameItems, wrt_plain]
theorem eq_lit {r : ByteArray} {l : List UInt8} (h : r.data.toList = l) : r = ⟨l.toArray⟩ := eq_of_data (by rw [h])
theorem digits_ne (n : Fin 10) : ∃ c l, digits n.val = c :: l ∧ ¬ c = 32 ∧ ¬ c = 9 ∧ ¬ c = 13 ∧ ¬ c = 10 ∧ ¬ c = 12 ∧ ¬ c = 47 := by
  have h : ∀ n : Fin 10, ¬ 48 + UInt8.ofNat (n.val % 10) = 32 ∧ ¬ 48 + UInt8.ofNat (n.val % 10) = 9 ∧ ¬ 48 + UInt8.ofNat (n.val % 10) = 13 ∧ ¬ 48 + UInt8.ofNat (n.val % 10) = 10 ∧ ¬ 48 + UInt8.ofNat (n.val % 10) = 12 ∧ ¬ 48 + UInt8.ofNat (n.val % 10) = 47 := by decide
  exact ⟨_, _, decN_small 4 n.val n.isLt, h n⟩
theorem noWs_count (a b : Int) (h1 : -9 ≤ a) (h2 : a ≤ 9) (rest : List UInt8) : noWs (countT a b ++ rest) := by
  have e : ∃ c l, countT a b ++ rest = c :: l ∧ ¬ c = 32 ∧ ¬ c = 9 ∧ ¬ c = 13 ∧ ¬ c = 10 ∧ ¬ c = 12 ∧ ¬ c = 47 := by
    unfold countT decI
    split
    · exact ⟨45, _, rfl, by decide⟩
    · obtain ⟨c, l, hc, h⟩ := digits_ne ⟨a.toNat, by omega⟩
      simp only at hc
      exact ⟨c, _, by rw [hc]; rfl, h⟩
  obtain ⟨c, l, he, h⟩ := e
  rw [he]
  intro d hd; simp at hd; subst hd; exact h
end Go.Proofs.YtoindammaphefaaGreatDoor
