/- Linked nodes as a reader of texts meets them, and how the texts add up along the links. No program in sight. -/
import Derived.Test.YtoindammaphefaaDoorZTree
namespace Go.Proofs.YtoindammaphefaaDoor
open Go.RowKit

theorem upTo_skip {g : Nat → List UInt8} {p : Nat → Bool} {n m : Nat} (h : n ≤ m) (hp : ∀ i, n ≤ i → i < m → p i = false) : upTo g p m = upTo g p n := by
  induction m with
  | zero => have : n = 0 := by omega
            subst this; rfl
  | succ m ih =>
    by_cases hn : n = m + 1
    · subst hn; rfl
    · rw [upTo_succ, ih (by omega) fun i h1 h2 => hp i h1 (by omega), hp m (by omega) (by omega)]
      simp
/-- Linked nodes, below block B. -/
def Linked (l : List NodeA) (b : Nat → Nat) (B : Nat) (w : World) : Prop :=
  ∀ k n, l[k]? = some n → b k < B ∧ w.cell? ⟨b k, 1, none⟩ = some (ptrOf b (firstOf l l.length k)) ∧ w.cell? ⟨b k, 4, none⟩ = some (ptrOf b (nextOf l l.length k)) ∧ w.cell? ⟨b k, 5, none⟩ = some (.int .u32 n.kind) ∧ w.cell? ⟨b k, 6, none⟩ = some (.string n.data)
theorem Linked.below {l : List NodeA} {b : Nat → Nat} {B : Nat} {w w' : World} (h : Linked l b B w) (hb : Below B w w') : Linked l b B w' := by
  intro k n hn
  obtain ⟨h0, h1, h2, h3, h4⟩ := h k n hn
  exact ⟨h0, (hb.cell h0).trans h1, (hb.cell h0).trans h2, (hb.cell h0).trans h3, (hb.cell h0).trans h4⟩
theorem TreeMem.linked {T : TypeId} {base B : Nat} {l : List NodeA} {b : Nat → Nat} {w : World} (h : TreeMem T base l l.length b w) (hB : w.heap.size ≤ B) : Linked l b B w := by
  intro k n hn
  have hk := (List.getElem?_eq_some_iff.1 hn).1
  obtain ⟨pp, pv, hc⟩ := h.lies k n hk hn
  refine ⟨Nat.lt_of_lt_of_le (h.lt (Nat.le_refl _) hk) hB, ?_, ?_, ?_, ?_⟩ <;> (rw [cell_of_row _ _ _ _ _ _ hc]; rfl)
/-- How many nodes stand from a pointer on. -/
def ordOf (b : Nat → Nat) (n : Nat) : Value → Nat
  | .pointer (some a) => n - ((List.range n).find? fun j => b j == a.block).getD n
  | _ => 0
theorem ord_ptr {b : Nat → Nat} {n j : Nat} (hi : ∀ i k, i < n → k < n → b i = b k → i = k) (hj : j < n) : ordOf b n (.pointer (some ⟨b j, 0, none⟩)) = n - j := by
  have h : (List.range n).find? (fun i => b i == b j) = some j := by
    cases hf : (List.range n).find? (fun i => b i == b j) with
    | none => exact absurd (List.find?_eq_none.1 hf j (List.mem_range.2 hj)) (by simp)
    | some i =>
      have h1 := List.find?_some hf
      have h2 := List.mem_of_find?_eq_some hf
      simp only [List.mem_range, beq_iff_eq] at h1 h2
      rw [hi i j h2 hj h1]
  simp only [ordOf, h, Option.getD_some]
theorem ord_nil {b : Nat → Nat} {n : Nat} : ordOf b n (.pointer none) = 0 := rfl
/-- What is known of a tree that Tree lets through, and of the kinds of its nodes. -/
structure Fine (l : List NodeA) : Prop extends Sane l where
  root : ∀ k, k < l.length → (parOf l k < 0 ↔ k = 0)
  kinds : ∀ k, k < l.length → k ≠ 0 → kindOf l k = 3 ∨ kindOf l k = 1 ∨ kindOf l k = 4
  leaf : ∀ k, k ≠ 0 → kindOf l k ≠ 3 → ∀ j, j < l.length → parOf l j ≠ k
/-- The next child of k behind the first m, if there is one. -/
theorem first_skip {l : List NodeA} {g : Nat → List UInt8} {p : Nat → Bool} {k : Nat} (hp : ∀ j, p j = true → parOf l j = k) :
    (firstOf l l.length k = none → upTo g p l.length = []) ∧ ∀ j, firstOf l l.length k = some j → upTo g p j = [] := by
  have h0 : ∀ n, (∀ i, i < n → parOf l i ≠ k) → upTo g p n = [] := fun n h => by
    rw [upTo_skip (Nat.zero_le n) fun i _ hi => by
      cases hpi : p i with
      | false => rfl
      | true => exact absurd (hp i hpi) (h i hi)]
    rfl
  exact ⟨fun h => h0 _ (firstOf_none h), fun j h => h0 _ (firstOf_some h).2.2⟩
theorem next_skip {l : List NodeA} {g : Nat → List UInt8} {p : Nat → Bool} {k j : Nat} (hp : ∀ j, p j = true → parOf l j = k) (hj : j < l.length) (hjk : parOf l j = k) :
    (nextOf l l.length j = none → upTo g p l.length = upTo g p (j + 1)) ∧ ∀ i, nextOf l l.length j = some i → upTo g p i = upTo g p (j + 1) := by
  have h0 : ∀ n, j < n → (∀ i, j < i → i < n → parOf l i ≠ parOf l j) → upTo g p n = upTo g p (j + 1) := fun n hn h => upTo_skip hn fun i h1 h2 => by
      cases hpi : p i with
      | false => rfl
      | true => exact absurd ((hp i hpi).trans hjk.symm) (h i (by omega) h2)
  refine ⟨fun h => h0 _ hj fun i h1 h2 => nextOf_none h i h1 h2, fun i h => ?_⟩
  have h1 := nextOf_some h
  exact h0 _ h1.1 h1.2.2.2
theorem text_leaf {l : List NodeA} (h : Fine l) {k : Nat} (hk : k < l.length) (h0 : k ≠ 0) (h1 : kindOf l k ≠ 1) (h3 : kindOf l k ≠ 3) : text l k = [] := by
  rw [text_eq h.ord hk, if_neg h1]
  rw [upTo_skip (Nat.zero_le _) fun i _ hi => by simpa using h.leaf k h0 h3 i hi]
  rfl
end Go.Proofs.YtoindammaphefaaDoor
